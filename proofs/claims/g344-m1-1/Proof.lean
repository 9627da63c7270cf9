import JvmDerived
import JvmDerived.Pilot.@@N@@Statement
import JvmDerived.Pilot.@@N@@Code
set_option linter.unusedVariables false
set_option linter.unusedSimpArgs false
namespace Jvm.OwnGo
open Sem ClassFile Op Lib Jvm.Stand Jvm.Free Jvm.LawKit Jvm.RoadKit Jvm.Free.Fl
/-- from S the run comes to an end of which P speaks -/
def Go (p : Program) (e : Env) (below : List Frame) (P : Outcome → State → Prop) (S : State) : Prop := ∃ s₂ o, Steps p.tables e below S s₂ ∧ s₂.status = .running ∧ Ended s₂ below o ∧ P o s₂
/-- what a body's end says -/
def EndsAt (s : State) (Q : Option Value → Heap → List Loc → Prop) (rm : Room) : Outcome → State → Prop := fun o U' => ∃ v L, o = .returned v ∧ Q v U'.heap L ∧ FrameEnd s o U' L rm.cells rm.slots
/-- a body's contract -/
def Ct (l : Launch) (Z : State) (y : MethodName) (bytes : ByteArray) (ml : Nat) (ret : Option FieldType) (ws : List Jvm.Cond) (rm : Room) (as : Array Value) (h0 : Heap) (Q : Option Value → Heap → List Loc → Prop) : Prop :=
  MetFree l y (head1 (Jvm.Cond.code y bytes ml ret :: ws) rm) (fun a U => a = as ∧ Z.Warmed39 U.vm ∧ U.heap = h0) (fun _ _ _ _ _ => True) (fun _ U o U' => EndsAt U Q rm o U')
section Steps1
variable {p : Program} {l : Launch} {e : Env} {R : Room} {s : State} {m : MethodId} {args : Array Value} {below : List Frame} {meth : Method} {c : Code} {T : State} {locs : List Loc} {cells slots : Nat} {P : Outcome → State → Prop} {pc : Nat} {L L' : Array Slot} {st : List Value} {Z : State} {h h' : Heap} {a0 : Array Value} {rm : Room} {Q : Option Value → Heap → List Loc → Prop}
theorem Go.via {S S' : State} (k : ∀ t, Steps p.tables e below S' t → Steps p.tables e below S t) (g : Go p e below P S') : Go p e below P S := by
  obtain ⟨s2, o, h1, h2⟩ := g; exact ⟨s2, o, k _ h1, h2⟩
theorem Go.tr {S S' : State} (k : Steps p.tables e below S S') (g : Go p e below P S') : Go p e below P S := by
  obtain ⟨s2, o, h1, h2⟩ := g; exact ⟨s2, o, k.trans h1, h2⟩
theorem Ct.intro {y : MethodName} {bytes : ByteArray} {ml : Nat} {ret : Option FieldType} {ws : List Jvm.Cond} {as : Array Value} {h0 : Heap} (hpn : plainFor y = true) (L0 : Array Slot) (hef : ∀ m, entryFrame m as ml = mkF m 0 L0 [])
    (k : ∀ (p : Program) (e : Env) (s : State) (m : MethodId) (below : List Frame) (meth : Method) (c : Code) (T : State), Stand p l e rm s m as below meth c T [] 0 0 → p.tables.exec = Jvm.exec → Z.Warmed39 s.vm → c.code = bytes → c.maxLocals = ml → s.vm.findClass y.cls = some m.cls → meth.name = y.name → meth.sig.returnType = ret → meth.locks = false → T.heap = h0 → Go p e below (EndsAt s Q rm) (T.setTop (mkF m 0 L0 []))) :
    Ct l Z y bytes ml ret ws rm as h0 Q := by
  refine MetFree.of_bodySF hpn hisR ?_
  intro p e s m args below meth c s₁ Bd hml0 hP hK
  obtain ⟨rfl, hZ, hh⟩ := hP
  obtain ⟨s2, o, h1, h2, h3, h4⟩ := k p e s m below meth c s₁ (Stand.of_body Bd) Bd.exec hZ Bd.bytes hml0 (findClass_of_methodNamed Bd.named) (name_of_methodNamed Bd.named Bd.method).1 Bd.returns (BodyLoose.notSynchronized Bd) (by rw [← hh, Bd.state]; rfl)
  exact ⟨s2, o, castTop (hef m) h1, h2, h3, h4⟩
theorem retW (X : Stand p l e R s m args below meth c T locs cells slots) (hx : p.tables.exec = Jvm.exec) (hlk : meth.locks = false) {w : Value} {t : FieldType} {i : Instr} {rest : List Value} (hret : meth.sig.returnType = some t) (hn : narrow t w = w)
    (hi : (i = .ireturn ∧ (t = .int ∨ t = .boolean ∨ t = .byte ∨ t = .char ∨ t = .short) ∧ ∃ z, w = .int z) ∨ (i = .lreturn ∧ t = .long ∧ ∃ z, w = .long z) ∨ (i = .dreturn ∧ t = .double ∧ ∃ z, w = .double z) ∨ (i = .freturn ∧ t = .float ∧ ∃ z, w = .float z) ∨ (i = .areturn ∧ t.isReference = true ∧ w.isRef = true))
    (hd : decode c.code pc = .ok (i, 1)) (eT : T.heap = h) (hq : Q (some w) h locs) (hc : cells ≤ rm.cells) (hs : slots ≤ rm.slots) : Go p e below (EndsAt s Q rm) (T.setTop (mkF m pc L (w :: rest))) := by
  obtain ⟨fs, hr, hrun, hended, hW, hsame⟩ := X.leave (v := some w) (fun q => by rw [hret] at q; cases q) hlk
  refine ⟨_, _, retOut X hx hret hn hi hd hr, hrun, hended, _, _, rfl, ?_, ⟨_, rfl⟩, hW, hsame.mono hc hs⟩
  show Q (some w) T.heap locs
  rw [eT]; exact hq
theorem retI (X : Stand p l e R s m args below meth c T locs cells slots) (hx : p.tables.exec = Jvm.exec) (hlk : meth.locks = false) {z : Int32} {rest : List Value} (hret : meth.sig.returnType = some .int) (hd : decode c.code pc = .ok (.ireturn, 1)) (eT : T.heap = h) (hq : Q (some (.int z)) h locs) (hc : cells ≤ rm.cells) (hs : slots ≤ rm.slots) : Go p e below (EndsAt s Q rm) (T.setTop (mkF m pc L (.int z :: rest))) :=
  retW X hx hlk hret rfl (Or.inl ⟨rfl, Or.inl rfl, z, rfl⟩) hd eT hq hc hs
theorem retZ (X : Stand p l e R s m args below meth c T locs cells slots) (hx : p.tables.exec = Jvm.exec) (hlk : meth.locks = false) {z : Int32} {rest : List Value} (hret : meth.sig.returnType = some .boolean) (hd : decode c.code pc = .ok (.ireturn, 1)) (hn : narrow .boolean (.int z) = .int z) (eT : T.heap = h) (hq : Q (some (.int z)) h locs) (hc : cells ≤ rm.cells) (hs : slots ≤ rm.slots) : Go p e below (EndsAt s Q rm) (T.setTop (mkF m pc L (.int z :: rest))) :=
  retW X hx hlk hret hn (Or.inl ⟨rfl, Or.inr (Or.inl rfl), z, rfl⟩) hd eT hq hc hs
theorem retJ (X : Stand p l e R s m args below meth c T locs cells slots) (hx : p.tables.exec = Jvm.exec) (hlk : meth.locks = false) {z : Int64} {rest : List Value} (hret : meth.sig.returnType = some .long) (hd : decode c.code pc = .ok (.lreturn, 1)) (eT : T.heap = h) (hq : Q (some (.long z)) h locs) (hc : cells ≤ rm.cells) (hs : slots ≤ rm.slots) : Go p e below (EndsAt s Q rm) (T.setTop (mkF m pc L (.long z :: rest))) :=
  retW X hx hlk hret rfl (Or.inr (Or.inl ⟨rfl, rfl, z, rfl⟩)) hd eT hq hc hs
theorem retD (X : Stand p l e R s m args below meth c T locs cells slots) (hx : p.tables.exec = Jvm.exec) (hlk : meth.locks = false) {z : UInt64} {rest : List Value} (hret : meth.sig.returnType = some .double) (hd : decode c.code pc = .ok (.dreturn, 1)) (eT : T.heap = h) (hq : Q (some (.double z)) h locs) (hc : cells ≤ rm.cells) (hs : slots ≤ rm.slots) : Go p e below (EndsAt s Q rm) (T.setTop (mkF m pc L (.double z :: rest))) :=
  retW X hx hlk hret rfl (Or.inr (Or.inr (Or.inl ⟨rfl, rfl, z, rfl⟩))) hd eT hq hc hs
theorem retA (X : Stand p l e R s m args below meth c T locs cells slots) (hx : p.tables.exec = Jvm.exec) (hlk : meth.locks = false) {t : FieldType} {z : Addr} {rest : List Value} (hret : meth.sig.returnType = some t) (ht : t.isReference = true) (hn : narrow t (.ref z) = .ref z) (hd : decode c.code pc = .ok (.areturn, 1)) (eT : T.heap = h) (hq : Q (some (.ref z)) h locs) (hc : cells ≤ rm.cells) (hs : slots ≤ rm.slots) : Go p e below (EndsAt s Q rm) (T.setTop (mkF m pc L (.ref z :: rest))) :=
  retW X hx hlk hret hn (Or.inr (Or.inr (Or.inr (Or.inr ⟨rfl, ht, rfl⟩)))) hd eT hq hc hs
theorem retV (X : Stand p l e R s m args below meth c T locs cells slots) (hx : p.tables.exec = Jvm.exec) (hlk : meth.locks = false) (hret : meth.sig.returnType = none) (hd : decode c.code pc = .ok (.return_, 1)) (eT : T.heap = h) (hq : Q none h locs) (hc : cells ≤ rm.cells) (hs : slots ≤ rm.slots) : Go p e below (EndsAt s Q rm) (T.setTop (mkF m pc L [])) := by
  obtain ⟨fs, hr, hrun, hended, hW, hsame⟩ := X.leave (v := none) (fun _ => rfl) hlk
  refine ⟨_, _, X.returnOut hx hret hd hr, hrun, hended, _, _, rfl, ?_, ⟨_, rfl⟩, hW, hsame.mono hc hs⟩
  show Q none T.heap locs
  rw [eT]; exact hq
theorem s_iload (X : Stand p l e R s m args below meth c T locs cells slots) (hx : p.tables.exec = Jvm.exec) {k : Nat} {v : Int32} (hd : decode c.code pc = .ok (.iload k, 2)) (hl : L[k]? = some (.val (.int v))) (pc' : Nat) (hp : pc + 2 = pc') (g : Go p e below P (T.setTop (mkF m pc' L (.int v :: st)))) : Go p e below P (T.setTop (mkF m pc L (st))) := by
  subst hp; exact Go.via (fun _ k => XS.iload X.here hx rfl hd hl k) g
theorem s_iloadN (X : Stand p l e R s m args below meth c T locs cells slots) (hx : p.tables.exec = Jvm.exec) {k : Fin 4} {v : Int32} (hd : decode c.code pc = .ok (.iload_n k, 1)) (hl : L[k.val]? = some (.val (.int v))) (pc' : Nat) (hp : pc + 1 = pc') (g : Go p e below P (T.setTop (mkF m pc' L (.int v :: st)))) : Go p e below P (T.setTop (mkF m pc L (st))) := by
  subst hp; exact Go.via (fun _ k => XS.iloadN X.here hx rfl hd hl k) g
theorem s_istore (X : Stand p l e R s m args below meth c T locs cells slots) (hx : p.tables.exec = Jvm.exec) {k : Nat} {v : Int32} (hd : decode c.code pc = .ok (.istore k, 2)) (L' : Array Slot) (hl : storeLocals L k (.int v) = some L') (pc' : Nat) (hp : pc + 2 = pc') (g : Go p e below P (T.setTop (mkF m pc' L' (st)))) : Go p e below P (T.setTop (mkF m pc L (.int v :: st))) := by
  subst hp; exact Go.via (fun _ k => XS.istore X.here hx rfl hd rfl hl k) g
theorem s_istoreN (X : Stand p l e R s m args below meth c T locs cells slots) (hx : p.tables.exec = Jvm.exec) {k : Fin 4} {v : Int32} (hd : decode c.code pc = .ok (.istore_n k, 1)) (L' : Array Slot) (hl : storeLocals L k.val (.int v) = some L') (pc' : Nat) (hp : pc + 1 = pc') (g : Go p e below P (T.setTop (mkF m pc' L' (st)))) : Go p e below P (T.setTop (mkF m pc L (.int v :: st))) := by
  subst hp; exact Go.via (fun _ k => XS.istoreN X.here hx rfl hd rfl hl k) g
theorem s_lload (X : Stand p l e R s m args below meth c T locs cells slots) (hx : p.tables.exec = Jvm.exec) {k : Nat} {v : Int64} (hd : decode c.code pc = .ok (.lload k, 2)) (hl : L[k]? = some (.val (.long v))) (pc' : Nat) (hp : pc + 2 = pc') (g : Go p e below P (T.setTop (mkF m pc' L (.long v :: st)))) : Go p e below P (T.setTop (mkF m pc L (st))) := by
  subst hp; exact Go.via (fun _ k => XT.lload X.here hx rfl hd hl k) g
theorem s_lloadN (X : Stand p l e R s m args below meth c T locs cells slots) (hx : p.tables.exec = Jvm.exec) {k : Fin 4} {v : Int64} (hd : decode c.code pc = .ok (.lload_n k, 1)) (hl : L[k.val]? = some (.val (.long v))) (pc' : Nat) (hp : pc + 1 = pc') (g : Go p e below P (T.setTop (mkF m pc' L (.long v :: st)))) : Go p e below P (T.setTop (mkF m pc L (st))) := by
  subst hp; exact Go.via (fun _ k => XT.lloadN X.here hx rfl hd hl k) g
theorem s_lstore (X : Stand p l e R s m args below meth c T locs cells slots) (hx : p.tables.exec = Jvm.exec) {k : Nat} {v : Int64} (hd : decode c.code pc = .ok (.lstore k, 2)) (L' : Array Slot) (hl : storeLocals L k (.long v) = some L') (pc' : Nat) (hp : pc + 2 = pc') (g : Go p e below P (T.setTop (mkF m pc' L' (st)))) : Go p e below P (T.setTop (mkF m pc L (.long v :: st))) := by
  subst hp; exact Go.via (fun _ k => XT.lstore X.here hx rfl hd rfl hl k) g
theorem s_lstoreN (X : Stand p l e R s m args below meth c T locs cells slots) (hx : p.tables.exec = Jvm.exec) {k : Fin 4} {v : Int64} (hd : decode c.code pc = .ok (.lstore_n k, 1)) (L' : Array Slot) (hl : storeLocals L k.val (.long v) = some L') (pc' : Nat) (hp : pc + 1 = pc') (g : Go p e below P (T.setTop (mkF m pc' L' (st)))) : Go p e below P (T.setTop (mkF m pc L (.long v :: st))) := by
  subst hp; exact Go.via (fun _ k => XT.lstoreN X.here hx rfl hd rfl hl k) g
theorem s_dload (X : Stand p l e R s m args below meth c T locs cells slots) (hx : p.tables.exec = Jvm.exec) {k : Nat} {v : UInt64} (hd : decode c.code pc = .ok (.dload k, 2)) (hl : L[k]? = some (.val (.double v))) (pc' : Nat) (hp : pc + 2 = pc') (g : Go p e below P (T.setTop (mkF m pc' L (.double v :: st)))) : Go p e below P (T.setTop (mkF m pc L (st))) := by
  subst hp; exact Go.via (fun _ k => XS.dload X.here hx rfl hd hl k) g
theorem s_dloadN (X : Stand p l e R s m args below meth c T locs cells slots) (hx : p.tables.exec = Jvm.exec) {k : Fin 4} {v : UInt64} (hd : decode c.code pc = .ok (.dload_n k, 1)) (hl : L[k.val]? = some (.val (.double v))) (pc' : Nat) (hp : pc + 1 = pc') (g : Go p e below P (T.setTop (mkF m pc' L (.double v :: st)))) : Go p e below P (T.setTop (mkF m pc L (st))) := by
  subst hp; exact Go.via (fun _ k => XS.dloadN X.here hx rfl hd hl k) g
theorem s_dstore (X : Stand p l e R s m args below meth c T locs cells slots) (hx : p.tables.exec = Jvm.exec) {k : Nat} {v : UInt64} (hd : decode c.code pc = .ok (.dstore k, 2)) (L' : Array Slot) (hl : storeLocals L k (.double v) = some L') (pc' : Nat) (hp : pc + 2 = pc') (g : Go p e below P (T.setTop (mkF m pc' L' (st)))) : Go p e below P (T.setTop (mkF m pc L (.double v :: st))) := by
  subst hp; exact Go.via (fun _ k => XS.dstore X.here hx rfl hd rfl hl k) g
theorem s_dstoreN (X : Stand p l e R s m args below meth c T locs cells slots) (hx : p.tables.exec = Jvm.exec) {k : Fin 4} {v : UInt64} (hd : decode c.code pc = .ok (.dstore_n k, 1)) (L' : Array Slot) (hl : storeLocals L k.val (.double v) = some L') (pc' : Nat) (hp : pc + 1 = pc') (g : Go p e below P (T.setTop (mkF m pc' L' (st)))) : Go p e below P (T.setTop (mkF m pc L (.double v :: st))) := by
  subst hp; exact Go.via (fun _ k => XS.dstoreN X.here hx rfl hd rfl hl k) g
theorem s_aload (X : Stand p l e R s m args below meth c T locs cells slots) (hx : p.tables.exec = Jvm.exec) {k : Nat} {v : Value} (hd : decode c.code pc = .ok (.aload k, 2)) (hl : L[k]? = some (.val v)) (hv : v.isRef = true) (pc' : Nat) (hp : pc + 2 = pc') (g : Go p e below P (T.setTop (mkF m pc' L (v :: st)))) : Go p e below P (T.setTop (mkF m pc L (st))) := by
  subst hp; exact Go.via (fun _ k => XS.aload X.here hx rfl hd hl hv k) g
theorem s_aloadN (X : Stand p l e R s m args below meth c T locs cells slots) (hx : p.tables.exec = Jvm.exec) {k : Fin 4} {v : Value} (hd : decode c.code pc = .ok (.aload_n k, 1)) (hl : L[k.val]? = some (.val v)) (hv : v.isRef = true) (pc' : Nat) (hp : pc + 1 = pc') (g : Go p e below P (T.setTop (mkF m pc' L (v :: st)))) : Go p e below P (T.setTop (mkF m pc L (st))) := by
  subst hp; exact Go.via (fun _ k => XS.aloadN X.here hx rfl hd hl hv k) g
theorem s_astore (X : Stand p l e R s m args below meth c T locs cells slots) (hx : p.tables.exec = Jvm.exec) {k : Nat} {v : Value} (hd : decode c.code pc = .ok (.astore k, 2)) (hv : v.isRef = true) (L' : Array Slot) (hl : storeLocals L k v = some L') (pc' : Nat) (hp : pc + 2 = pc') (g : Go p e below P (T.setTop (mkF m pc' L' (st)))) : Go p e below P (T.setTop (mkF m pc L (v :: st))) := by
  subst hp; exact Go.via (fun _ k => XS.astore X.here hx rfl hd rfl hv hl k) g
theorem s_astoreN (X : Stand p l e R s m args below meth c T locs cells slots) (hx : p.tables.exec = Jvm.exec) {k : Fin 4} {v : Value} (hd : decode c.code pc = .ok (.astore_n k, 1)) (hv : v.isRef = true) (L' : Array Slot) (hl : storeLocals L k.val v = some L') (pc' : Nat) (hp : pc + 1 = pc') (g : Go p e below P (T.setTop (mkF m pc' L' (st)))) : Go p e below P (T.setTop (mkF m pc L (v :: st))) := by
  subst hp; exact Go.via (fun _ k => XS.astoreN X.here hx rfl hd rfl hv hl k) g
theorem s_iconst (X : Stand p l e R s m args below meth c T locs cells slots) (hx : p.tables.exec = Jvm.exec) {i : Int} (hd : decode c.code pc = .ok (.iconst i, 1)) (v : Int32) (hv : Int32.ofInt i = v) (pc' : Nat) (hp : pc + 1 = pc') (g : Go p e below P (T.setTop (mkF m pc' L (.int v :: st)))) : Go p e below P (T.setTop (mkF m pc L (st))) := by
  subst hp hv; exact Go.via (fun _ k => XS.iconst X.here hx rfl hd k) g
theorem s_bipush (X : Stand p l e R s m args below meth c T locs cells slots) (hx : p.tables.exec = Jvm.exec) {i : Int} (hd : decode c.code pc = .ok (.bipush i, 2)) (v : Int32) (hv : (Int8.ofInt i).toInt32 = v) (pc' : Nat) (hp : pc + 2 = pc') (g : Go p e below P (T.setTop (mkF m pc' L (.int v :: st)))) : Go p e below P (T.setTop (mkF m pc L (st))) := by
  subst hp hv; exact Go.via (fun _ k => XS.bipush X.here hx rfl hd k) g
theorem s_sipush (X : Stand p l e R s m args below meth c T locs cells slots) (hx : p.tables.exec = Jvm.exec) {i : Int} (hd : decode c.code pc = .ok (.sipush i, 3)) (v : Int32) (hv : (Int16.ofInt i).toInt32 = v) (pc' : Nat) (hp : pc + 3 = pc') (g : Go p e below P (T.setTop (mkF m pc' L (.int v :: st)))) : Go p e below P (T.setTop (mkF m pc L (st))) := by
  subst hp hv; exact Go.via (fun _ k => XS.sipush X.here hx rfl hd k) g
theorem s_lconst (X : Stand p l e R s m args below meth c T locs cells slots) (hx : p.tables.exec = Jvm.exec) {i : Fin 2} (hd : decode c.code pc = .ok (.lconst i, 1)) (v : Int64) (hv : Int64.ofNat i = v) (pc' : Nat) (hp : pc + 1 = pc') (g : Go p e below P (T.setTop (mkF m pc' L (.long v :: st)))) : Go p e below P (T.setTop (mkF m pc L (st))) := by
  subst hp; exact Go.via (fun _ k => XT.lconstV X.here hx rfl v hd hv k) g
theorem s_null (X : Stand p l e R s m args below meth c T locs cells slots) (hx : p.tables.exec = Jvm.exec)  (hd : decode c.code pc = .ok (.aconst_null, 1))  (pc' : Nat) (hp : pc + 1 = pc') (g : Go p e below P (T.setTop (mkF m pc' L (.null :: st)))) : Go p e below P (T.setTop (mkF m pc L (st))) := by
  subst hp; exact Go.via (fun _ k => XS.aconstNull X.here hx rfl hd k) g
theorem s_dconst0 (X : Stand p l e R s m args below meth c T locs cells slots) (hx : p.tables.exec = Jvm.exec)  (hd : decode c.code pc = .ok (.dconst 0, 1)) (v : UInt64) (hv : FP.dconst0 = v) (pc' : Nat) (hp : pc + 1 = pc') (g : Go p e below P (T.setTop (mkF m pc' L (.double v :: st)))) : Go p e below P (T.setTop (mkF m pc L (st))) := by
  subst hp; exact Go.via (fun _ k => XS.dconst0 X.here hx rfl hd hv k) g
theorem s_dconst1 (X : Stand p l e R s m args below meth c T locs cells slots) (hx : p.tables.exec = Jvm.exec)  (hd : decode c.code pc = .ok (.dconst 1, 1)) (v : UInt64) (hv : FP.dconst1 = v) (pc' : Nat) (hp : pc + 1 = pc') (g : Go p e below P (T.setTop (mkF m pc' L (.double v :: st)))) : Go p e below P (T.setTop (mkF m pc L (st))) := by
  subst hp; exact Go.via (fun _ k => XS.dconst1 X.here hx rfl hd hv k) g
theorem s_ldcI (X : Stand p l e R s m args below meth c T locs cells slots) (hx : p.tables.exec = Jvm.exec) {i : Nat} {v : Int32} (hd : decode c.code pc = .ok (.ldc i, 2)) (hZ : Z.Warmed39 s.vm) {own : String} (hown : s.vm.findClass own = some m.cls) (w : (Cond.constant own i v).before a0 Z = true) (pc' : Nat) (hp : pc + 2 = pc') (g : Go p e below P (T.setTop (mkF m pc' L (.int v :: st)))) : Go p e below P (T.setTop (mkF m pc L (st))) := by
  subst hp; exact Go.via (fun _ k => X.ldcI hx hown (mvT hZ w) rfl hd k) g
theorem s_ldc2J (X : Stand p l e R s m args below meth c T locs cells slots) (hx : p.tables.exec = Jvm.exec) {i : Nat} {v : Int64} (hd : decode c.code pc = .ok (.ldc2_w i, 3)) (hZ : Z.Warmed39 s.vm) {own : String} (hown : s.vm.findClass own = some m.cls) (w : (Cond.constantLong own i v).before a0 Z = true) (pc' : Nat) (hp : pc + 3 = pc') (g : Go p e below P (T.setTop (mkF m pc' L (.long v :: st)))) : Go p e below P (T.setTop (mkF m pc L (st))) := by
  subst hp; exact Go.via (fun _ k => X.ldc2J hx hown (mvT hZ w) rfl hd k) g
theorem s_ldc2D (X : Stand p l e R s m args below meth c T locs cells slots) (hx : p.tables.exec = Jvm.exec) {i : Nat} {v : UInt64} (hd : decode c.code pc = .ok (.ldc2_w i, 3)) (hZ : Z.Warmed39 s.vm) {own : String} (hown : s.vm.findClass own = some m.cls) (w : (Cond.constantDouble own i v).before a0 Z = true) (pc' : Nat) (hp : pc + 3 = pc') (g : Go p e below P (T.setTop (mkF m pc' L (.double v :: st)))) : Go p e below P (T.setTop (mkF m pc L (st))) := by
  subst hp; exact Go.via (fun _ k => X.ldc2DoubleC hx hown (mvT hZ w) (g := mkF m pc L st) rfl hd _ k) g
theorem s_iadd (X : Stand p l e R s m args below meth c T locs cells slots) (hx : p.tables.exec = Jvm.exec) {x y : Int32} (hd : decode c.code pc = .ok (.iadd, 1)) (v : Int32) (hv : x + y = v) (pc' : Nat) (hp : pc + 1 = pc') (g : Go p e below P (T.setTop (mkF m pc' L (.int v :: st)))) : Go p e below P (T.setTop (mkF m pc L (.int y :: .int x :: st))) := by
  subst hp hv; exact Go.via (fun _ k => XS.iadd X.here hx rfl hd rfl k) g
theorem s_isub (X : Stand p l e R s m args below meth c T locs cells slots) (hx : p.tables.exec = Jvm.exec) {x y : Int32} (hd : decode c.code pc = .ok (.isub, 1)) (v : Int32) (hv : x - y = v) (pc' : Nat) (hp : pc + 1 = pc') (g : Go p e below P (T.setTop (mkF m pc' L (.int v :: st)))) : Go p e below P (T.setTop (mkF m pc L (.int y :: .int x :: st))) := by
  subst hp hv; exact Go.via (fun _ k => XS.isub X.here hx rfl hd rfl k) g
theorem s_imul (X : Stand p l e R s m args below meth c T locs cells slots) (hx : p.tables.exec = Jvm.exec) {x y : Int32} (hd : decode c.code pc = .ok (.imul, 1)) (v : Int32) (hv : x * y = v) (pc' : Nat) (hp : pc + 1 = pc') (g : Go p e below P (T.setTop (mkF m pc' L (.int v :: st)))) : Go p e below P (T.setTop (mkF m pc L (.int y :: .int x :: st))) := by
  subst hp hv; exact Go.via (fun _ k => XS.imul X.here hx rfl hd rfl k) g
theorem s_iand (X : Stand p l e R s m args below meth c T locs cells slots) (hx : p.tables.exec = Jvm.exec) {x y : Int32} (hd : decode c.code pc = .ok (.iand, 1)) (v : Int32) (hv : x &&& y = v) (pc' : Nat) (hp : pc + 1 = pc') (g : Go p e below P (T.setTop (mkF m pc' L (.int v :: st)))) : Go p e below P (T.setTop (mkF m pc L (.int y :: .int x :: st))) := by
  subst hp hv; exact Go.via (fun _ k => XS.iand X.here hx rfl hd rfl k) g
theorem s_ixor (X : Stand p l e R s m args below meth c T locs cells slots) (hx : p.tables.exec = Jvm.exec) {x y : Int32} (hd : decode c.code pc = .ok (.ixor, 1)) (v : Int32) (hv : x ^^^ y = v) (pc' : Nat) (hp : pc + 1 = pc') (g : Go p e below P (T.setTop (mkF m pc' L (.int v :: st)))) : Go p e below P (T.setTop (mkF m pc L (.int y :: .int x :: st))) := by
  subst hp hv; exact Go.via (fun _ k => XT.ixor X.here hx rfl hd rfl k) g
theorem s_ior (X : Stand p l e R s m args below meth c T locs cells slots) (hx : p.tables.exec = Jvm.exec) {x y : Int32} (hd : decode c.code pc = .ok (.ior, 1)) (v : Int32) (hv : x ||| y = v) (pc' : Nat) (hp : pc + 1 = pc') (g : Go p e below P (T.setTop (mkF m pc' L (.int v :: st)))) : Go p e below P (T.setTop (mkF m pc L (.int y :: .int x :: st))) := by
  subst hp hv; exact Go.via (fun _ k => XT.ior X.here hx rfl hd rfl k) g
theorem s_ishl (X : Stand p l e R s m args below meth c T locs cells slots) (hx : p.tables.exec = Jvm.exec) {x y : Int32} (hd : decode c.code pc = .ok (.ishl, 1)) (v : Int32) (hv : x <<< (y &&& 31) = v) (pc' : Nat) (hp : pc + 1 = pc') (g : Go p e below P (T.setTop (mkF m pc' L (.int v :: st)))) : Go p e below P (T.setTop (mkF m pc L (.int y :: .int x :: st))) := by
  subst hp hv; exact Go.via (fun _ k => XT.ishl X.here hx rfl hd rfl k) g
theorem s_ishr (X : Stand p l e R s m args below meth c T locs cells slots) (hx : p.tables.exec = Jvm.exec) {x y : Int32} (hd : decode c.code pc = .ok (.ishr, 1)) (v : Int32) (hv : x >>> (y &&& 31) = v) (pc' : Nat) (hp : pc + 1 = pc') (g : Go p e below P (T.setTop (mkF m pc' L (.int v :: st)))) : Go p e below P (T.setTop (mkF m pc L (.int y :: .int x :: st))) := by
  subst hp hv; exact Go.via (fun _ k => XT.ishr X.here hx rfl hd rfl k) g
theorem s_iushr (X : Stand p l e R s m args below meth c T locs cells slots) (hx : p.tables.exec = Jvm.exec) {x y : Int32} (hd : decode c.code pc = .ok (.iushr, 1)) (v : Int32) (hv : XT.ushr x y = v) (pc' : Nat) (hp : pc + 1 = pc') (g : Go p e below P (T.setTop (mkF m pc' L (.int v :: st)))) : Go p e below P (T.setTop (mkF m pc L (.int y :: .int x :: st))) := by
  subst hp hv; exact Go.via (fun _ k => XT.iushr X.here hx rfl hd rfl k) g
theorem s_idiv (X : Stand p l e R s m args below meth c T locs cells slots) (hx : p.tables.exec = Jvm.exec) {x y : Int32} (hd : decode c.code pc = .ok (.idiv, 1)) (hy : y ≠ 0) (v : Int32) (hv : x / y = v) (pc' : Nat) (hp : pc + 1 = pc') (g : Go p e below P (T.setTop (mkF m pc' L (.int v :: st)))) : Go p e below P (T.setTop (mkF m pc L (.int y :: .int x :: st))) := by
  subst hp hv; exact Go.via (fun _ k => XS.idiv X.here hx rfl hd rfl hy k) g
theorem s_irem (X : Stand p l e R s m args below meth c T locs cells slots) (hx : p.tables.exec = Jvm.exec) {x y : Int32} (hd : decode c.code pc = .ok (.irem, 1)) (hy : y ≠ 0) (v : Int32) (hv : x % y = v) (pc' : Nat) (hp : pc + 1 = pc') (g : Go p e below P (T.setTop (mkF m pc' L (.int v :: st)))) : Go p e below P (T.setTop (mkF m pc L (.int y :: .int x :: st))) := by
  subst hp hv; exact Go.via (fun _ k => RoadKit.iremM X hx rfl hd rfl hy k) g
theorem s_ineg (X : Stand p l e R s m args below meth c T locs cells slots) (hx : p.tables.exec = Jvm.exec) {x : Int32} (hd : decode c.code pc = .ok (.ineg, 1)) (v : Int32) (hv : -x = v) (pc' : Nat) (hp : pc + 1 = pc') (g : Go p e below P (T.setTop (mkF m pc' L (.int v :: st)))) : Go p e below P (T.setTop (mkF m pc L (.int x :: st))) := by
  subst hp hv; exact Go.via (fun _ k => XS.ineg X.here hx rfl hd rfl k) g
theorem s_ladd (X : Stand p l e R s m args below meth c T locs cells slots) (hx : p.tables.exec = Jvm.exec) {x y : Int64} (hd : decode c.code pc = .ok (.ladd, 1)) (v : Int64) (hv : x + y = v) (pc' : Nat) (hp : pc + 1 = pc') (g : Go p e below P (T.setTop (mkF m pc' L (.long v :: st)))) : Go p e below P (T.setTop (mkF m pc L (.long y :: .long x :: st))) := by
  subst hp hv; exact Go.via (fun _ k => XT.ladd X.here hx rfl hd rfl k) g
theorem s_lsub (X : Stand p l e R s m args below meth c T locs cells slots) (hx : p.tables.exec = Jvm.exec) {x y : Int64} (hd : decode c.code pc = .ok (.lsub, 1)) (v : Int64) (hv : x - y = v) (pc' : Nat) (hp : pc + 1 = pc') (g : Go p e below P (T.setTop (mkF m pc' L (.long v :: st)))) : Go p e below P (T.setTop (mkF m pc L (.long y :: .long x :: st))) := by
  subst hp hv; exact Go.via (fun _ k => XT.lsub X.here hx rfl hd rfl k) g
theorem s_lmul (X : Stand p l e R s m args below meth c T locs cells slots) (hx : p.tables.exec = Jvm.exec) {x y : Int64} (hd : decode c.code pc = .ok (.lmul, 1)) (v : Int64) (hv : x * y = v) (pc' : Nat) (hp : pc + 1 = pc') (g : Go p e below P (T.setTop (mkF m pc' L (.long v :: st)))) : Go p e below P (T.setTop (mkF m pc L (.long y :: .long x :: st))) := by
  subst hp hv; exact Go.via (fun _ k => XT.lmul X.here hx rfl hd rfl k) g
theorem s_land (X : Stand p l e R s m args below meth c T locs cells slots) (hx : p.tables.exec = Jvm.exec) {x y : Int64} (hd : decode c.code pc = .ok (.land, 1)) (v : Int64) (hv : x &&& y = v) (pc' : Nat) (hp : pc + 1 = pc') (g : Go p e below P (T.setTop (mkF m pc' L (.long v :: st)))) : Go p e below P (T.setTop (mkF m pc L (.long y :: .long x :: st))) := by
  subst hp hv; exact Go.via (fun _ k => XT.land X.here hx rfl hd rfl k) g
theorem s_lor (X : Stand p l e R s m args below meth c T locs cells slots) (hx : p.tables.exec = Jvm.exec) {x y : Int64} (hd : decode c.code pc = .ok (.lor, 1)) (v : Int64) (hv : x ||| y = v) (pc' : Nat) (hp : pc + 1 = pc') (g : Go p e below P (T.setTop (mkF m pc' L (.long v :: st)))) : Go p e below P (T.setTop (mkF m pc L (.long y :: .long x :: st))) := by
  subst hp hv; exact Go.via (fun _ k => XT.lor X.here hx rfl hd rfl k) g
theorem s_lxor (X : Stand p l e R s m args below meth c T locs cells slots) (hx : p.tables.exec = Jvm.exec) {x y : Int64} (hd : decode c.code pc = .ok (.lxor, 1)) (v : Int64) (hv : x ^^^ y = v) (pc' : Nat) (hp : pc + 1 = pc') (g : Go p e below P (T.setTop (mkF m pc' L (.long v :: st)))) : Go p e below P (T.setTop (mkF m pc L (.long y :: .long x :: st))) := by
  subst hp hv; exact Go.via (fun _ k => XT.lxor X.here hx rfl hd rfl k) g
theorem s_ldiv (X : Stand p l e R s m args below meth c T locs cells slots) (hx : p.tables.exec = Jvm.exec) {x y : Int64} (hd : decode c.code pc = .ok (.ldiv, 1)) (hy : y ≠ 0) (v : Int64) (hv : x / y = v) (pc' : Nat) (hp : pc + 1 = pc') (g : Go p e below P (T.setTop (mkF m pc' L (.long v :: st)))) : Go p e below P (T.setTop (mkF m pc L (.long y :: .long x :: st))) := by
  subst hp hv; exact Go.via (fun _ k => XT.ldiv X.here hx rfl hd rfl hy k) g
theorem s_lrem (X : Stand p l e R s m args below meth c T locs cells slots) (hx : p.tables.exec = Jvm.exec) {x y : Int64} (hd : decode c.code pc = .ok (.lrem, 1)) (hy : y ≠ 0) (v : Int64) (hv : x - (x / y) * y = v) (pc' : Nat) (hp : pc + 1 = pc') (g : Go p e below P (T.setTop (mkF m pc' L (.long v :: st)))) : Go p e below P (T.setTop (mkF m pc L (.long y :: .long x :: st))) := by
  subst hp hv; exact Go.via (fun _ k => XT.lrem X.here hx rfl hd rfl hy k) g
theorem s_lneg (X : Stand p l e R s m args below meth c T locs cells slots) (hx : p.tables.exec = Jvm.exec) {x : Int64} (hd : decode c.code pc = .ok (.lneg, 1)) (v : Int64) (hv : -x = v) (pc' : Nat) (hp : pc + 1 = pc') (g : Go p e below P (T.setTop (mkF m pc' L (.long v :: st)))) : Go p e below P (T.setTop (mkF m pc L (.long x :: st))) := by
  subst hp hv; exact Go.via (fun _ k => XT.lneg X.here hx rfl hd rfl k) g
theorem sh64 (y : Int32) : (y.toInt64 &&& 63) = (y &&& 0x3f).toInt64 := by rw [Int32.toInt64_and]; rfl
theorem s_lshl (X : Stand p l e R s m args below meth c T locs cells slots) (hx : p.tables.exec = Jvm.exec) {x : Int64} {y : Int32} (hd : decode c.code pc = .ok (.lshl, 1)) (v : Int64) (hv : x <<< (y &&& 0x3f).toInt64 = v) (pc' : Nat) (hp : pc + 1 = pc') (g : Go p e below P (T.setTop (mkF m pc' L (.long v :: st)))) : Go p e below P (T.setTop (mkF m pc L (.int y :: .long x :: st))) := by
  subst hp hv; exact Go.via (fun _ k => XT.lshl X.here hx rfl hd rfl (by rw [sh64]; exact k)) g
theorem s_lshr (X : Stand p l e R s m args below meth c T locs cells slots) (hx : p.tables.exec = Jvm.exec) {x : Int64} {y : Int32} (hd : decode c.code pc = .ok (.lshr, 1)) (v : Int64) (hv : x >>> (y &&& 0x3f).toInt64 = v) (pc' : Nat) (hp : pc + 1 = pc') (g : Go p e below P (T.setTop (mkF m pc' L (.long v :: st)))) : Go p e below P (T.setTop (mkF m pc L (.int y :: .long x :: st))) := by
  subst hp hv; exact Go.via (fun _ k => XT.lshr X.here hx rfl hd rfl (by rw [sh64]; exact k)) g
theorem s_lushr (X : Stand p l e R s m args below meth c T locs cells slots) (hx : p.tables.exec = Jvm.exec) {x : Int64} {y : Int32} (hd : decode c.code pc = .ok (.lushr, 1)) (v : Int64) (hv : XT.ushrL x y = v) (pc' : Nat) (hp : pc + 1 = pc') (g : Go p e below P (T.setTop (mkF m pc' L (.long v :: st)))) : Go p e below P (T.setTop (mkF m pc L (.int y :: .long x :: st))) := by
  subst hp hv; exact Go.via (fun _ k => XT.lushr X.here hx rfl hd rfl k) g
theorem s_i2l (X : Stand p l e R s m args below meth c T locs cells slots) (hx : p.tables.exec = Jvm.exec) {x : Int32} (hd : decode c.code pc = .ok (.i2l, 1)) (v : Int64) (hv : x.toInt64 = v) (pc' : Nat) (hp : pc + 1 = pc') (g : Go p e below P (T.setTop (mkF m pc' L (.long v :: st)))) : Go p e below P (T.setTop (mkF m pc L (.int x :: st))) := by
  subst hp hv; exact Go.via (fun _ k => XT.i2l X.here hx rfl hd rfl k) g
theorem s_l2i (X : Stand p l e R s m args below meth c T locs cells slots) (hx : p.tables.exec = Jvm.exec) {x : Int64} (hd : decode c.code pc = .ok (.l2i, 1)) (v : Int32) (hv : x.toInt32 = v) (pc' : Nat) (hp : pc + 1 = pc') (g : Go p e below P (T.setTop (mkF m pc' L (.int v :: st)))) : Go p e below P (T.setTop (mkF m pc L (.long x :: st))) := by
  subst hp hv; exact Go.via (fun _ k => XT.l2i X.here hx rfl hd rfl k) g
theorem s_i2b (X : Stand p l e R s m args below meth c T locs cells slots) (hx : p.tables.exec = Jvm.exec) {x : Int32} (hd : decode c.code pc = .ok (.i2b, 1)) (v : Int32) (hv : x.toInt8.toInt32 = v) (pc' : Nat) (hp : pc + 1 = pc') (g : Go p e below P (T.setTop (mkF m pc' L (.int v :: st)))) : Go p e below P (T.setTop (mkF m pc L (.int x :: st))) := by
  subst hp hv; exact Go.via (fun _ k => XT.i2b X.here hx rfl hd rfl k) g
theorem s_i2s (X : Stand p l e R s m args below meth c T locs cells slots) (hx : p.tables.exec = Jvm.exec) {x : Int32} (hd : decode c.code pc = .ok (.i2s, 1)) (v : Int32) (hv : x.toInt16.toInt32 = v) (pc' : Nat) (hp : pc + 1 = pc') (g : Go p e below P (T.setTop (mkF m pc' L (.int v :: st)))) : Go p e below P (T.setTop (mkF m pc L (.int x :: st))) := by
  subst hp hv; exact Go.via (fun _ k => XT.i2s X.here hx rfl hd rfl k) g
theorem s_i2d (X : Stand p l e R s m args below meth c T locs cells slots) (hx : p.tables.exec = Jvm.exec) {x : Int32} (hd : decode c.code pc = .ok (.i2d, 1)) (v : UInt64) (hv : FP.i2d x = v) (pc' : Nat) (hp : pc + 1 = pc') (g : Go p e below P (T.setTop (mkF m pc' L (.double v :: st)))) : Go p e below P (T.setTop (mkF m pc L (.int x :: st))) := by
  subst hp; exact Go.via (fun _ k => XS.i2dS X.here hx rfl hd rfl hv k) g
theorem s_l2d (X : Stand p l e R s m args below meth c T locs cells slots) (hx : p.tables.exec = Jvm.exec) {x : Int64} (hd : decode c.code pc = .ok (.l2d, 1)) (v : UInt64) (hv : FP.l2d x = v) (pc' : Nat) (hp : pc + 1 = pc') (g : Go p e below P (T.setTop (mkF m pc' L (.double v :: st)))) : Go p e below P (T.setTop (mkF m pc L (.long x :: st))) := by
  subst hp; exact Go.via (fun _ k => XS.l2dS X.here hx rfl hd rfl hv k) g
theorem s_dneg (X : Stand p l e R s m args below meth c T locs cells slots) (hx : p.tables.exec = Jvm.exec) {x : UInt64} (hd : decode c.code pc = .ok (.dneg, 1)) (v : UInt64) (hv : FP.dneg x = v) (pc' : Nat) (hp : pc + 1 = pc') (g : Go p e below P (T.setTop (mkF m pc' L (.double v :: st)))) : Go p e below P (T.setTop (mkF m pc L (.double x :: st))) := by
  subst hp; exact Go.via (fun _ k => XS.dnegS X.here hx rfl hd rfl hv k) g
theorem s_dadd (X : Stand p l e R s m args below meth c T locs cells slots) (hx : p.tables.exec = Jvm.exec) {x y : UInt64} (hd : decode c.code pc = .ok (.dadd, 1)) (v : UInt64) (hv : FP.dadd x y = v) (hn : NoNaN64 v) (pc' : Nat) (hp : pc + 1 = pc') (g : Go p e below P (T.setTop (mkF m pc' L (.double v :: st)))) : Go p e below P (T.setTop (mkF m pc L (.double y :: .double x :: st))) := by
  subst hp hv; exact Go.via (fun _ k => XS.daddS X.here hx rfl hd rfl hn rfl k) g
theorem s_dsub (X : Stand p l e R s m args below meth c T locs cells slots) (hx : p.tables.exec = Jvm.exec) {x y : UInt64} (hd : decode c.code pc = .ok (.dsub, 1)) (v : UInt64) (hv : FP.dsub x y = v) (hn : NoNaN64 v) (pc' : Nat) (hp : pc + 1 = pc') (g : Go p e below P (T.setTop (mkF m pc' L (.double v :: st)))) : Go p e below P (T.setTop (mkF m pc L (.double y :: .double x :: st))) := by
  subst hp hv; exact Go.via (fun _ k => XS.dsubS X.here hx rfl hd rfl hn rfl k) g
theorem s_dmul (X : Stand p l e R s m args below meth c T locs cells slots) (hx : p.tables.exec = Jvm.exec) {x y : UInt64} (hd : decode c.code pc = .ok (.dmul, 1)) (v : UInt64) (hv : FP.dmul x y = v) (hn : NoNaN64 v) (pc' : Nat) (hp : pc + 1 = pc') (g : Go p e below P (T.setTop (mkF m pc' L (.double v :: st)))) : Go p e below P (T.setTop (mkF m pc L (.double y :: .double x :: st))) := by
  subst hp hv; exact Go.via (fun _ k => XS.dmulS X.here hx rfl hd rfl hn rfl k) g
theorem s_ddiv (X : Stand p l e R s m args below meth c T locs cells slots) (hx : p.tables.exec = Jvm.exec) {x y : UInt64} (hd : decode c.code pc = .ok (.ddiv, 1)) (v : UInt64) (hv : FP.ddiv x y = v) (hn : NoNaN64 v) (pc' : Nat) (hp : pc + 1 = pc') (g : Go p e below P (T.setTop (mkF m pc' L (.double v :: st)))) : Go p e below P (T.setTop (mkF m pc L (.double y :: .double x :: st))) := by
  subst hp hv; exact Go.via (fun _ k => XS.ddivS X.here hx rfl hd rfl hn rfl k) g
theorem s_dcmp (X : Stand p l e R s m args below meth c T locs cells slots) (hx : p.tables.exec = Jvm.exec) {x y : UInt64} {o : CmpOp} (hd : decode c.code pc = .ok (.dcmp o, 1)) (v : Int32) (hv : cmpValue (FP.dcmp x y) o = v) (pc' : Nat) (hp : pc + 1 = pc') (g : Go p e below P (T.setTop (mkF m pc' L (.int v :: st)))) : Go p e below P (T.setTop (mkF m pc L (.double y :: .double x :: st))) := by
  subst hp; exact Go.via (fun _ k => XS.dcmpS X.here hx rfl hd rfl hv k) g
theorem s_lcmp (X : Stand p l e R s m args below meth c T locs cells slots) (hx : p.tables.exec = Jvm.exec) {x y : Int64} (hd : decode c.code pc = .ok (.lcmp, 1)) (v : Int32) (hv : XT.cmpL x y = v) (pc' : Nat) (hp : pc + 1 = pc') (g : Go p e below P (T.setTop (mkF m pc' L (.int v :: st)))) : Go p e below P (T.setTop (mkF m pc L (.long y :: .long x :: st))) := by
  subst hp hv; exact Go.via (fun _ k => XT.lcmp X.here hx rfl hd rfl k) g
theorem s_dup (X : Stand p l e R s m args below meth c T locs cells slots) (hx : p.tables.exec = Jvm.exec) {x : Value} (hd : decode c.code pc = .ok (.dup, 1)) (hc : x.category = 1) (pc' : Nat) (hp : pc + 1 = pc') (g : Go p e below P (T.setTop (mkF m pc' L (x :: x :: st)))) : Go p e below P (T.setTop (mkF m pc L (x :: st))) := by
  subst hp; exact Go.via (fun _ k => XS.dup X.here hx rfl hd rfl hc k) g
theorem s_pop (X : Stand p l e R s m args below meth c T locs cells slots) (hx : p.tables.exec = Jvm.exec) {x : Value} (hd : decode c.code pc = .ok (.pop, 1)) (hc : x.category = 1) (pc' : Nat) (hp : pc + 1 = pc') (g : Go p e below P (T.setTop (mkF m pc' L (st)))) : Go p e below P (T.setTop (mkF m pc L (x :: st))) := by
  subst hp; exact Go.via (fun _ k => XT.pop X.here hx rfl hd rfl hc k) g
theorem s_dupX1 (X : Stand p l e R s m args below meth c T locs cells slots) (hx : p.tables.exec = Jvm.exec) {x y : Value} (hd : decode c.code pc = .ok (.dup_x1, 1)) (hc : x.category = 1) (hc' : y.category = 1) (pc' : Nat) (hp : pc + 1 = pc') (g : Go p e below P (T.setTop (mkF m pc' L (x :: y :: x :: st)))) : Go p e below P (T.setTop (mkF m pc L (x :: y :: st))) := by
  subst hp; exact Go.via (fun _ k => XT.dupX1 X.here hx rfl hd rfl hc hc' k) g
theorem s_dup2 (X : Stand p l e R s m args below meth c T locs cells slots) (hx : p.tables.exec = Jvm.exec) {x y : Value} (hd : decode c.code pc = .ok (.dup2, 1)) (hc : x.category = 1) (hc' : y.category = 1) (pc' : Nat) (hp : pc + 1 = pc') (g : Go p e below P (T.setTop (mkF m pc' L (x :: y :: x :: y :: st)))) : Go p e below P (T.setTop (mkF m pc L (x :: y :: st))) := by
  subst hp; exact Go.via (fun _ k => XT.dup2 X.here hx rfl hd rfl hc hc' k) g
theorem s_iinc (X : Stand p l e R s m args below meth c T locs cells slots) (hx : p.tables.exec = Jvm.exec) {k : Nat} {cst : Int} {x : Int32} (hd : decode c.code pc = .ok (.iinc k cst, 3)) (v : Int32) (hv : x + Int32.ofInt cst = v) (hl : L[k]? = some (.val (.int x))) (L' : Array Slot) (hl' : storeLocals L k (.int v) = some L') (pc' : Nat) (hp : pc + 3 = pc') (g : Go p e below P (T.setTop (mkF m pc' L' (st)))) : Go p e below P (T.setTop (mkF m pc L (st))) := by
  subst hp hv; exact Go.via (fun _ k => XS.iinc X.here hx rfl hd hl hl' k) g
theorem s_goto (X : Stand p l e R s m args below meth c T locs cells slots) (hx : p.tables.exec = Jvm.exec) {o : Int} (hd : decode c.code pc = .ok (.goto o, 3)) (pc' : Nat) (ho : 0 ≤ (pc : Int) + o) (hp : ((pc : Int) + o).toNat = pc') (g : Go p e below P (T.setTop (mkF m pc' L st))) : Go p e below P (T.setTop (mkF m pc L st)) := Go.via (fun _ k => XS.goto X.here hx rfl rfl hd ho hp k) g
theorem s_ifY (X : Stand p l e R s m args below meth c T locs cells slots) (hx : p.tables.exec = Jvm.exec) {cd : ClassFile.Cond} {o : Int} {x : Int32} (hd : decode c.code pc = .ok (.ifCond cd o, 3)) (hc : ifCond.holds cd x = true) (pc' : Nat) (ho : 0 ≤ (pc : Int) + o) (hp : ((pc : Int) + o).toNat = pc') (g : Go p e below P (T.setTop (mkF m pc' L st))) : Go p e below P (T.setTop (mkF m pc L (.int x :: st))) := Go.via (fun _ k => XS.ifYes X.here hx rfl rfl hd rfl hc ho hp k) g
theorem s_ifN (X : Stand p l e R s m args below meth c T locs cells slots) (hx : p.tables.exec = Jvm.exec) {cd : ClassFile.Cond} {o : Int} {x : Int32} (hd : decode c.code pc = .ok (.ifCond cd o, 3)) (hc : ifCond.holds cd x = false) (pc' : Nat) (hp : pc + 3 = pc') (g : Go p e below P (T.setTop (mkF m pc' L (st)))) : Go p e below P (T.setTop (mkF m pc L (.int x :: st))) := by
  subst hp; exact Go.via (fun _ k => XS.ifNo X.here hx rfl hd rfl hc k) g
theorem s_icmpY (X : Stand p l e R s m args below meth c T locs cells slots) (hx : p.tables.exec = Jvm.exec) {cd : ClassFile.Cond} {o : Int} {x y : Int32} (hd : decode c.code pc = .ok (.if_icmp cd o, 3)) (hc : if_icmp.holds cd x y = true) (pc' : Nat) (ho : 0 ≤ (pc : Int) + o) (hp : ((pc : Int) + o).toNat = pc') (g : Go p e below P (T.setTop (mkF m pc' L st))) : Go p e below P (T.setTop (mkF m pc L (.int y :: .int x :: st))) := Go.via (fun _ k => XS.icmpYes X.here hx rfl rfl hd rfl hc ho hp k) g
theorem s_icmpN (X : Stand p l e R s m args below meth c T locs cells slots) (hx : p.tables.exec = Jvm.exec) {cd : ClassFile.Cond} {o : Int} {x y : Int32} (hd : decode c.code pc = .ok (.if_icmp cd o, 3)) (hc : if_icmp.holds cd x y = false) (pc' : Nat) (hp : pc + 3 = pc') (g : Go p e below P (T.setTop (mkF m pc' L (st)))) : Go p e below P (T.setTop (mkF m pc L (.int y :: .int x :: st))) := by
  subst hp; exact Go.via (fun _ k => XS.icmpNo X.here hx rfl hd rfl hc k) g
theorem s_acmpY (X : Stand p l e R s m args below meth c T locs cells slots) (hx : p.tables.exec = Jvm.exec) {cd : ClassFile.ACond} {o : Int} {x y : Value} (hd : decode c.code pc = .ok (.if_acmp cd o, 3)) (h1 : x.isRef = true) (h2 : y.isRef = true) (hc : XT.acmp cd x y = true) (pc' : Nat) (ho : 0 ≤ (pc : Int) + o) (hp : ((pc : Int) + o).toNat = pc') (g : Go p e below P (T.setTop (mkF m pc' L st))) : Go p e below P (T.setTop (mkF m pc L (y :: x :: st))) := Go.via (fun _ k => XT.acmpYes X.here hx rfl rfl hd rfl h1 h2 hc ho hp k) g
theorem s_acmpN (X : Stand p l e R s m args below meth c T locs cells slots) (hx : p.tables.exec = Jvm.exec) {cd : ClassFile.ACond} {o : Int} {x y : Value} (hd : decode c.code pc = .ok (.if_acmp cd o, 3)) (h1 : x.isRef = true) (h2 : y.isRef = true) (hc : XT.acmp cd x y = false) (pc' : Nat) (hp : pc + 3 = pc') (g : Go p e below P (T.setTop (mkF m pc' L (st)))) : Go p e below P (T.setTop (mkF m pc L (y :: x :: st))) := by
  subst hp; exact Go.via (fun _ k => XT.acmpNo X.here hx rfl hd rfl h1 h2 hc k) g
theorem s_ifnullN (X : Stand p l e R s m args below meth c T locs cells slots) (hx : p.tables.exec = Jvm.exec) {o : Int} {b : Addr} (hd : decode c.code pc = .ok (.ifnull o, 3))  (pc' : Nat) (hp : pc + 3 = pc') (g : Go p e below P (T.setTop (mkF m pc' L (st)))) : Go p e below P (T.setTop (mkF m pc L (.ref b :: st))) := by
  subst hp; exact Go.via (fun _ k => XS.ifnullNo X.here hx rfl hd rfl k) g
theorem s_ifnullY (X : Stand p l e R s m args below meth c T locs cells slots) (hx : p.tables.exec = Jvm.exec) {o : Int} (hd : decode c.code pc = .ok (.ifnull o, 3)) (pc' : Nat) (ho : 0 ≤ (pc : Int) + o) (hp : ((pc : Int) + o).toNat = pc') (g : Go p e below P (T.setTop (mkF m pc' L st))) : Go p e below P (T.setTop (mkF m pc L (.null :: st))) := Go.via (fun _ k => XS.ifnullYes X.here hx rfl rfl hd rfl ho hp k) g
theorem s_ifnonnullN (X : Stand p l e R s m args below meth c T locs cells slots) (hx : p.tables.exec = Jvm.exec) {o : Int} (hd : decode c.code pc = .ok (.ifnonnull o, 3))  (pc' : Nat) (hp : pc + 3 = pc') (g : Go p e below P (T.setTop (mkF m pc' L (st)))) : Go p e below P (T.setTop (mkF m pc L (.null :: st))) := by
  subst hp; exact Go.via (fun _ k => XT.ifnonnullNo X.here hx rfl hd rfl k) g
theorem s_ifnonnullY (X : Stand p l e R s m args below meth c T locs cells slots) (hx : p.tables.exec = Jvm.exec) {o : Int} {b : Addr} (hd : decode c.code pc = .ok (.ifnonnull o, 3)) (pc' : Nat) (ho : 0 ≤ (pc : Int) + o) (hp : ((pc : Int) + o).toNat = pc') (g : Go p e below P (T.setTop (mkF m pc' L st))) : Go p e below P (T.setTop (mkF m pc L (.ref b :: st))) := Go.via (fun _ k => XT.ifnonnullYes X.here hx rfl rfl hd rfl ho hp k) g
section Cmp
variable {r : Option Ordering} {o : CmpOp}
theorem dd_ne_t (h : r ≠ some .eq) : ifCond.holds .ne (cmpValue r o) = true := by rcases r with _ | (_ | _ | _) <;> cases o <;> first | rfl | exact absurd rfl h
theorem dd_ne_f (h : r = some .eq) : ifCond.holds .ne (cmpValue r o) = false := by subst h; cases o <;> rfl
theorem dd_eq_t (h : r = some .eq) : ifCond.holds .eq (cmpValue r o) = true := by subst h; cases o <;> rfl
theorem dd_eq_f (h : r ≠ some .eq) : ifCond.holds .eq (cmpValue r o) = false := by rcases r with _ | (_ | _ | _) <;> cases o <;> first | rfl | exact absurd rfl h
theorem dd_ge_t (h : r ≠ some .lt) : ifCond.holds .ge (cmpValue r .g) = true := by rcases r with _ | (_ | _ | _) <;> first | rfl | exact absurd rfl h
theorem dd_ge_f (h : r = some .lt) : ifCond.holds .ge (cmpValue r .g) = false := by subst h; rfl
theorem dd_le_t (h : r ≠ some .gt) : ifCond.holds .le (cmpValue r .l) = true := by rcases r with _ | (_ | _ | _) <;> first | rfl | exact absurd rfl h
theorem dd_le_f (h : r = some .gt) : ifCond.holds .le (cmpValue r .l) = false := by subst h; rfl
theorem dd_gt_f (h : r = some .lt ∨ r = some .eq) : ifCond.holds .gt (cmpValue r .g) = false := by rcases h with h | h <;> (subst h; rfl)
theorem dd_lt_f (h : r = some .gt ∨ r = some .eq) : ifCond.holds .lt (cmpValue r .l) = false := by rcases h with h | h <;> (subst h; rfl)
theorem dd_lt_t (h : r = some .lt) : ifCond.holds .lt (cmpValue r o) = true := by subst h; cases o <;> rfl
end Cmp
end Steps1
/-! ## arrays, by the list of what they hold -/
section Arrays
variable {p : Program} {l : Launch} {e : Env} {R : Room} {s : State} {m : MethodId} {args : Array Value} {below : List Frame} {meth : Method} {c : Code} {T : State} {locs : List Loc} {cells slots : Nat} {P : Outcome → State → Prop} {pc : Nat} {L : Array Slot} {st : List Value} {Z : State} {h h' : Heap} {a b : Addr} {a0 : Array Value} {k : ClassId} {ty : FieldType} {vs : List Value} {v : Value} {sl : Nat} {ws : List Addr}
/-- at a lies an array of components ty, of the class numbered k, that holds vs -/
def AR (Z : State) (h : Heap) (a : Addr) (k : ClassId) (ty : FieldType) (vs : List Value) : Prop := ∃ c : Cell, Arr Z h a c ty ∧ c.cls = k ∧ c.slots = vs.toArray
theorem AR.lt (F : AR Z h a k ty vs) : a < h.size := by obtain ⟨c, A, -⟩ := F; exact A.lt
theorem AR.ext (F : AR Z h a k ty vs) (E : Ext h h') : AR Z h' a k ty vs := by obtain ⟨c, A, r⟩ := F; exact ⟨c, A.ext E, r⟩
theorem AR.other (F : AR Z h b k ty vs) (W : Wr h h' a sl v) (q : b ≠ a) : AR Z h' b k ty vs := by obtain ⟨c, A, r⟩ := F; exact ⟨c, A.other W q, r⟩
theorem AR.keep (F : AR Z h a k ty vs) (K : Keep h h' ws) (q : a ∉ ws) : AR Z h' a k ty vs := by obtain ⟨c, A, r⟩ := F; exact ⟨c, ⟨K.2.1 a c A.1 q, A.2⟩, r⟩
theorem AR.same (F : AR Z h a k ty vs) (W : Wr h h' a sl v) : AR Z h' a k ty (vs.set sl v) := by
  obtain ⟨c, A, r1, r2⟩ := F
  exact ⟨c.setSlot sl v, A.same W, r1, by simp [Cell.setSlot, r2]⟩
theorem ar_len {c : Cell} (r : c.slots = vs.toArray) : c.slots.size = vs.length := by rw [r]; simp
theorem ar_in {c : Cell} (r : c.slots = vs.toArray) {j : Int32} {i : Nat} (hj : ¬ j < 0 ∧ j.toNatClampNeg = i) (hv : vs[i]? = some v) : ¬ (j < 0 ∨ c.slots.size ≤ j.toNatClampNeg) ∧ c.slots[j.toNatClampNeg]? = some v := by
  obtain ⟨h1, rfl⟩ := hj
  have h2 : j.toNatClampNeg < vs.length := (List.getElem?_eq_some_iff.mp hv).1
  refine ⟨?_, by rw [r]; simpa using hv⟩
  rintro (q | q)
  · exact h1 q
  · rw [ar_len r] at q; omega
theorem s_len (X : Stand p l e R s m args below meth c T locs cells slots) (hx : p.tables.exec = Jvm.exec) (hZ : Z.Warmed39 s.vm) (eT : T.heap = h) (F : AR Z h a k ty vs) (hd : decode c.code pc = .ok (.arraylength, 1)) (n : Int32) (hn : vs.length.toInt32 = n) (pc' : Nat) (hp : pc + 1 = pc') (g : Go p e below P (T.setTop (mkF m pc' L (.int n :: st)))) : Go p e below P (T.setTop (mkF m pc L (.ref a :: st))) := by
  obtain ⟨cl, A, r1, r2⟩ := F
  subst hp hn
  rw [← ar_len r2] at g
  exact Go.via (fun _ k => X.arraylength hx (by rw [eT]; exact A.1) (State.isArrayOf_alike hZ.alike A.2.1) (g := mkF m pc L (.ref a :: st)) rfl rfl hd _ k) g
theorem s_iaload (X : Stand p l e R s m args below meth c T locs cells slots) (hx : p.tables.exec = Jvm.exec) (hZ : Z.Warmed39 s.vm) (eT : T.heap = h) (F : AR Z h a k .int vs) (hd : decode c.code pc = .ok (.iaload, 1)) {j : Int32} (i : Nat) (hj : ¬ j < 0 ∧ j.toNatClampNeg = i) (v : Value) (hv : vs[i]? = some v) (pc' : Nat) (hp : pc + 1 = pc') (g : Go p e below P (T.setTop (mkF m pc' L (v :: st)))) : Go p e below P (T.setTop (mkF m pc L (.int j :: .ref a :: st))) := by
  obtain ⟨cl, A, r1, r2⟩ := F
  obtain ⟨q1, q2⟩ := ar_in r2 hj hv
  subst hp
  exact Go.via (fun _ k => X.iaload hx (by rw [eT]; exact A.1) (State.isArrayOf_alike hZ.alike A.2.1) A.2.2 q1 q2 (g := mkF m pc L (.int j :: .ref a :: st)) rfl rfl hd _ k) g
theorem s_laload (X : Stand p l e R s m args below meth c T locs cells slots) (hx : p.tables.exec = Jvm.exec) (hZ : Z.Warmed39 s.vm) (eT : T.heap = h) (F : AR Z h a k .long vs) (hd : decode c.code pc = .ok (.laload, 1)) {j : Int32} (i : Nat) (hj : ¬ j < 0 ∧ j.toNatClampNeg = i) (v : Value) (hv : vs[i]? = some v) (pc' : Nat) (hp : pc + 1 = pc') (g : Go p e below P (T.setTop (mkF m pc' L (v :: st)))) : Go p e below P (T.setTop (mkF m pc L (.int j :: .ref a :: st))) := by
  obtain ⟨cl, A, r1, r2⟩ := F
  obtain ⟨q1, q2⟩ := ar_in r2 hj hv
  subst hp
  exact Go.via (fun _ k => X.laload hx (by rw [eT]; exact A.1) (State.isArrayOf_alike hZ.alike A.2.1) A.2.2 q1 q2 (g := mkF m pc L (.int j :: .ref a :: st)) rfl rfl hd _ k) g
theorem s_daload (X : Stand p l e R s m args below meth c T locs cells slots) (hx : p.tables.exec = Jvm.exec) (hZ : Z.Warmed39 s.vm) (eT : T.heap = h) (F : AR Z h a k .double vs) (hd : decode c.code pc = .ok (.daload, 1)) {j : Int32} (i : Nat) (hj : ¬ j < 0 ∧ j.toNatClampNeg = i) (v : Value) (hv : vs[i]? = some v) (pc' : Nat) (hp : pc + 1 = pc') (g : Go p e below P (T.setTop (mkF m pc' L (v :: st)))) : Go p e below P (T.setTop (mkF m pc L (.int j :: .ref a :: st))) := by
  obtain ⟨cl, A, r1, r2⟩ := F
  obtain ⟨q1, q2⟩ := ar_in r2 hj hv
  subst hp
  exact Go.via (fun _ k => X.daload hx (by rw [eT]; exact A.1) (State.isArrayOf_alike hZ.alike A.2.1) A.2.2 q1 q2 (g := mkF m pc L (.int j :: .ref a :: st)) rfl rfl hd _ k) g
theorem s_aaload (X : Stand p l e R s m args below meth c T locs cells slots) (hx : p.tables.exec = Jvm.exec) (hZ : Z.Warmed39 s.vm) (eT : T.heap = h) (F : AR Z h a k ty vs) (ht : ty.isReference = true) (hd : decode c.code pc = .ok (.aaload, 1)) {j : Int32} (i : Nat) (hj : ¬ j < 0 ∧ j.toNatClampNeg = i) (v : Value) (hv : vs[i]? = some v) (pc' : Nat) (hp : pc + 1 = pc') (g : Go p e below P (T.setTop (mkF m pc' L (v :: st)))) : Go p e below P (T.setTop (mkF m pc L (.int j :: .ref a :: st))) := by
  obtain ⟨cl, A, r1, r2⟩ := F
  obtain ⟨q1, q2⟩ := ar_in r2 hj hv
  subst hp
  exact Go.via (fun _ k => X.aaload hx (by rw [eT]; exact A.1) (State.isArrayOf_alike hZ.alike A.2.1) ht A.2.2 q1 q2 (g := mkF m pc L (.int j :: .ref a :: st)) rfl rfl hd _ k) g
theorem s_iastore (X : Stand p l e R s m args below meth c T locs cells slots) (hx : p.tables.exec = Jvm.exec) (hZ : Z.Warmed39 s.vm) (eT : T.heap = h) (F : AR Z h a k .int vs) (hd : decode c.code pc = .ok (.iastore, 1)) (L : Array Slot) (st : List Value) {j : Int32} (i : Nat) (hj : ¬ j < 0 ∧ j.toNatClampNeg = i) (hi : i < vs.length) (x : Int32) (vs' : List Value) (hvs : vs.set i (.int x) = vs') (pc' : Nat) (hp : pc + 1 = pc') :
    ∃ T' h', Stand p l e R s m args below meth c T' (locs ++ [⟨a, i⟩]) cells slots ∧ T'.heap = h' ∧ Wr h h' a i (.int x) ∧ AR Z h' a k .int vs' ∧ ∀ t, Steps p.tables e below (T'.setTop (mkF m pc' L st)) t → Steps p.tables e below (T.setTop (mkF m pc L (.int x :: .int j :: .ref a :: st))) t := by
  obtain ⟨cl, A, r1, r2⟩ := F
  obtain ⟨q1, -⟩ := ar_in r2 hj (List.getElem?_eq_getElem hi)
  obtain ⟨hj1, rfl⟩ := hj
  subst hp hvs
  obtain ⟨T', h', X', e', W, st'⟩ := stI X hx hZ eT A q1 (g := mkF m pc L (.int x :: .int j :: .ref a :: st)) rfl rfl hd
  exact ⟨T', h', X', e', W, AR.same ⟨cl, A, r1, r2⟩ W, st'⟩
theorem s_lastore (X : Stand p l e R s m args below meth c T locs cells slots) (hx : p.tables.exec = Jvm.exec) (hZ : Z.Warmed39 s.vm) (eT : T.heap = h) (F : AR Z h a k .long vs) (hd : decode c.code pc = .ok (.lastore, 1)) (L : Array Slot) (st : List Value) {j : Int32} (i : Nat) (hj : ¬ j < 0 ∧ j.toNatClampNeg = i) (hi : i < vs.length) (x : Int64) (vs' : List Value) (hvs : vs.set i (.long x) = vs') (pc' : Nat) (hp : pc + 1 = pc') :
    ∃ T' h', Stand p l e R s m args below meth c T' (locs ++ [⟨a, i⟩]) cells slots ∧ T'.heap = h' ∧ Wr h h' a i (.long x) ∧ AR Z h' a k .long vs' ∧ ∀ t, Steps p.tables e below (T'.setTop (mkF m pc' L st)) t → Steps p.tables e below (T.setTop (mkF m pc L (.long x :: .int j :: .ref a :: st))) t := by
  obtain ⟨cl, A, r1, r2⟩ := F
  obtain ⟨q1, -⟩ := ar_in r2 hj (List.getElem?_eq_getElem hi)
  obtain ⟨hj1, rfl⟩ := hj
  subst hp hvs
  obtain ⟨T', h', X', e', W, st'⟩ := stJ X hx hZ eT A q1 (g := mkF m pc L (.long x :: .int j :: .ref a :: st)) rfl rfl hd
  exact ⟨T', h', X', e', W, AR.same ⟨cl, A, r1, r2⟩ W, st'⟩
theorem s_dastore (X : Stand p l e R s m args below meth c T locs cells slots) (hx : p.tables.exec = Jvm.exec) (hZ : Z.Warmed39 s.vm) (eT : T.heap = h) (F : AR Z h a k .double vs) (hd : decode c.code pc = .ok (.dastore, 1)) (L : Array Slot) (st : List Value) {j : Int32} (i : Nat) (hj : ¬ j < 0 ∧ j.toNatClampNeg = i) (hi : i < vs.length) (x : UInt64) (vs' : List Value) (hvs : vs.set i (.double x) = vs') (pc' : Nat) (hp : pc + 1 = pc') :
    ∃ T' h', Stand p l e R s m args below meth c T' (locs ++ [⟨a, i⟩]) cells slots ∧ T'.heap = h' ∧ Wr h h' a i (.double x) ∧ AR Z h' a k .double vs' ∧ ∀ t, Steps p.tables e below (T'.setTop (mkF m pc' L st)) t → Steps p.tables e below (T.setTop (mkF m pc L (.double x :: .int j :: .ref a :: st))) t := by
  obtain ⟨cl, A, r1, r2⟩ := F
  obtain ⟨q1, -⟩ := ar_in r2 hj (List.getElem?_eq_getElem hi)
  obtain ⟨hj1, rfl⟩ := hj
  subst hp hvs
  obtain ⟨T', h', X', e', W, st'⟩ := stD X hx hZ eT A q1 (g := mkF m pc L (.double x :: .int j :: .ref a :: st)) rfl rfl hd
  exact ⟨T', h', X', e', W, AR.same ⟨cl, A, r1, r2⟩ W, st'⟩
theorem s_aastore (X : Stand p l e R s m args below meth c T locs cells slots) (hx : p.tables.exec = Jvm.exec) (hZ : Z.Warmed39 s.vm) (eT : T.heap = h) (F : AR Z h a k ty vs) (ht : ty.isReference = true) (hd : decode c.code pc = .ok (.aastore, 1)) (L : Array Slot) (st : List Value) {j : Int32} (i : Nat) (hj : ¬ j < 0 ∧ j.toNatClampNeg = i) (hi : i < vs.length) (x : Value) (S : Sto Z h a x) (vs' : List Value) (hvs : vs.set i x = vs') (pc' : Nat) (hp : pc + 1 = pc') :
    ∃ T' h', Stand p l e R s m args below meth c T' (locs ++ [⟨a, i⟩]) cells slots ∧ T'.heap = h' ∧ Wr h h' a i x ∧ AR Z h' a k ty vs' ∧ ∀ t, Steps p.tables e below (T'.setTop (mkF m pc' L st)) t → Steps p.tables e below (T.setTop (mkF m pc L (x :: .int j :: .ref a :: st))) t := by
  obtain ⟨cl, A, r1, r2⟩ := F
  obtain ⟨q1, -⟩ := ar_in r2 hj (List.getElem?_eq_getElem hi)
  obtain ⟨hj1, rfl⟩ := hj
  subst hp hvs
  obtain ⟨T', h', X', e', W, st'⟩ := stR X hx hZ eT A q1 ht S (g := mkF m pc L (x :: .int j :: .ref a :: st)) rfl rfl hd
  exact ⟨T', h', X', e', W, AR.same ⟨cl, A, r1, r2⟩ W, st'⟩
theorem s_newarray (X : Stand p l e R s m args below meth c T locs cells slots) (hx : p.tables.exec = Jvm.exec) (hZ : Z.Warmed39 s.vm) {aty : ArrayType} (w : (Cond.arrayClass (newarray.typeOf aty)).before a0 Z = true) (eT : T.heap = h) (hd : decode c.code pc = .ok (.newarray aty, 2)) (L : Array Slot) (st : List Value) {n : Int32} (cap : Nat) (hn : ¬ n < 0 ∧ n.toNatClampNeg = cap) (vs : List Value) (hvs : List.replicate cap (defaultValue (newarray.typeOf aty)) = vs) (hb : cap * 8 ≤ 536870912) (hc : cells + 1 ≤ R.cells) (hl : slots + cap ≤ R.slots) (pc' : Nat) (hp : pc + 2 = pc') :
    ∃ T' h' cA, Stand p l e R s m args below meth c T' locs (cells + 1) (slots + cap) ∧ T'.heap = h' ∧ Ext h h' ∧ AR Z h' h.size cA (newarray.typeOf aty) vs ∧ ∀ t, Steps p.tables e below (T'.setTop (mkF m pc' L (.ref h.size :: st))) t → Steps p.tables e below (T.setTop (mkF m pc L (.int n :: st))) t := by
  obtain ⟨n1, n2⟩ := hn
  obtain ⟨T', h', cA, X', e', E, A, st'⟩ := newP X hx hZ w eT (g := mkF m pc L (.int n :: st)) rfl hd rfl n1 (cap := cap) (Nat.le_of_eq n2) hb hc hl
  subst hp hvs
  exact ⟨T', h', cA, X', e', E, ⟨_, A, rfl, by simp [newA, n2]⟩, st'⟩
end Arrays
/-! ## calls by contract -/
section Calls
variable {p : Program} {l : Launch} {e : Env} {R : Room} {s : State} {m : MethodId} {args : Array Value} {below : List Frame} {meth : Method} {c : Code} {T : State} {locs : List Loc} {cells slots : Nat} {P : Outcome → State → Prop} {pc : Nat} {L : Array Slot} {st : List Value} {Z : State} {h h' : Heap} {a0 : Array Value} {own : String} {index : Nat} {y : MethodName} {bytes : ByteArray} {ml : Nat} {rm : Room} {as : Array Value} {Q : Option Value → Heap → List Loc → Prop}
theorem ct_back {ret : Option FieldType} {len W : Nat} (C : Ct l Z y bytes ml ret [] rm as h Q) (hZ : Z.Warmed39 s.vm) (wc : (Cond.code y bytes ml ret).before a0 Z = true) (wz : (Cond.initialized y.cls).before a0 Z = true) (hf : rm.frames + 1 ≤ R.frames) (hl : W + (ml + 11) + rm.locals ≤ R.locals) :
    Back l R p e below s args y len W (fun A a => a = as ∧ A.U.heap = h ∧ A.cells + rm.cells ≤ R.cells ∧ A.slots + rm.slots ≤ R.slots)
      (fun A _ v B => ∃ L, Q v B.U.heap L ∧ B.locs = A.locs ++ L ∧ B.cells = A.cells + rm.cells ∧ B.slots = A.slots + rm.slots) := backOf C hZ wc wz hf hl
theorem callStat {ret : Option FieldType} (X : Stand p l e R s m args below meth c T locs cells slots) (hx : p.tables.exec = Jvm.exec) (hZ : Z.Warmed39 s.vm) (hown : s.vm.findClass own = some m.cls) (w1 : (Cond.methodLink own index y).before a0 Z = true) (w2 : (Cond.static y).before a0 Z = true) (w3 : (Cond.initialized y.cls).before a0 Z = true) (w4 : (Cond.code y bytes ml ret).before a0 Z = true) (hy : y.cls ≠ "java/lang/invoke/MethodHandle" ∧ y.cls ≠ "java/lang/invoke/VarHandle") (C : Ct l Z y bytes ml ret [] rm as h Q) (eT : T.heap = h) (hd : decode c.code pc = .ok (.invokestatic index, 3)) (hml : L.size = c.maxLocals) (argsL rest : List Value) (hst : st = argsL.reverse ++ rest) (has : argsL.toArray = as) {ps : List FieldType} {r : Option FieldType} (hpd : parseMethodDescriptor y.desc = some ⟨ps, r⟩) (hln : argsL.length = ps.length) (W : Nat) (hW : 2 * 0 + (rest.map fun v => v.category).sum ≤ W) (hfr : rm.frames + 1 ≤ R.frames) (hlo : W + (ml + 11) + rm.locals ≤ R.locals) (hc : cells + rm.cells ≤ R.cells) (hs : slots + rm.slots ≤ R.slots) :
    ∃ v T' L', Stand p l e R s m args below meth c T' (locs ++ L') (cells + rm.cells) (slots + rm.slots) ∧ Q v T'.heap L' ∧ ∀ t, Steps p.tables e below (T'.setTop (mkF m (pc + 3) L (v.toList ++ rest))) t → Steps p.tables e below (T.setTop (mkF m pc L st)) t := by
  obtain ⟨v, _, ⟨T', L1, k1, n1⟩, -, X', ⟨L', hQ, l1, y1, z1⟩, st'⟩ := Jvm.LawKit.callS X hx (y := y) hown (mvT hZ w1) (mvT hZ w2) (mvT hZ w3) (mvT hZ w4) hy (ct_back (W := W) C hZ w4 w3 hfr hlo) (g := mkF m pc L st) rfl hml (argsL := argsL) (rest := rest) (lenOf hpd hln) hst hW hd (fun _ _ => ⟨has, eT, hc, hs⟩)
  dsimp only [Pt.U, Pt.locs, Pt.cells, Pt.slots] at X' l1 y1 z1 st' hQ
  subst l1 y1 z1
  exact ⟨v, T', L', X', hQ, st'⟩
theorem callInit (X : Stand p l e R s m args below meth c T locs cells slots) (hx : p.tables.exec = Jvm.exec) (hZ : Z.Warmed39 s.vm) (hown : s.vm.findClass own = some m.cls) (hin : y.name = "<init>") (w1 : (Cond.methodLink own index y).before a0 Z = true) (w2 : (Cond.instanceMethod y).before a0 Z = true) (w3 : (Cond.initialized y.cls).before a0 Z = true) (w4 : (Cond.code y bytes ml none).before a0 Z = true) (hy : y.cls ≠ "java/lang/invoke/MethodHandle" ∧ y.cls ≠ "java/lang/invoke/VarHandle") (C : Ct l Z y bytes ml none [] rm as h Q) (eT : T.heap = h) (hd : decode c.code pc = .ok (.invokespecial index, 3)) (hml : L.size = c.maxLocals) (a : Addr) (argsL rest : List Value) (hst : st = argsL.reverse ++ .ref a :: rest) (has : (.ref a :: argsL).toArray = as) {ps : List FieldType} {r : Option FieldType} (hpd : parseMethodDescriptor y.desc = some ⟨ps, r⟩) (hln : argsL.length = ps.length) (W : Nat) (hW : 2 * 0 + (rest.map fun v => v.category).sum ≤ W) (hfr : rm.frames + 1 ≤ R.frames) (hlo : W + (ml + 11) + rm.locals ≤ R.locals) (hc : cells + rm.cells ≤ R.cells) (hs : slots + rm.slots ≤ R.slots) :
    ∃ v T' L', Stand p l e R s m args below meth c T' (locs ++ L') (cells + rm.cells) (slots + rm.slots) ∧ Q v T'.heap L' ∧ ∀ t, Steps p.tables e below (T'.setTop (mkF m (pc + 3) L (v.toList ++ rest))) t → Steps p.tables e below (T.setTop (mkF m pc L st)) t := by
  obtain ⟨v, _, ⟨T', L1, k1, n1⟩, -, X', ⟨L', hQ, l1, y1, z1⟩, st'⟩ := X.specialBack hx (y := y) hin hown (mvT hZ w1) (mvT hZ w2) (mvT hZ w4) hy (ct_back (W := W) C hZ w4 w3 hfr hlo) (g := mkF m pc L st) rfl hml (Steps.refl _) (a := a) (argsL := argsL) (rest := rest) (lenOf hpd hln) hst hW hd (fun _ _ => ⟨has, eT, hc, hs⟩)
  dsimp only [Pt.U, Pt.locs, Pt.cells, Pt.slots] at X' l1 y1 z1 st' hQ
  subst l1 y1 z1
  exact ⟨v, T', L', X', hQ, fun t k => st'.trans k⟩
theorem callVirt {ret : Option FieldType} {C0 : String} (X : Stand p l e R s m args below meth c T locs cells slots) (hx : p.tables.exec = Jvm.exec) (hZ : Z.Warmed39 s.vm) (hown : s.vm.findClass own = some m.cls) (w1 : (Cond.methodLink own index y).before a0 Z = true) (w2 : (Cond.declares y).before a0 Z = true) (w3 : (Cond.selects C0 y y).before a0 Z = true) (w4 : (Cond.instanceMethod y).before a0 Z = true) (w5 : (Cond.initialized y.cls).before a0 Z = true) (w6 : (Cond.code y bytes ml ret).before a0 Z = true) (hy : y.cls ≠ "java/lang/invoke/MethodHandle" ∧ y.cls ≠ "java/lang/invoke/VarHandle") (C : Ct l Z y bytes ml ret [] rm as h Q) (eT : T.heap = h) (a : Addr) (E : Exa Z h a C0) (hd : decode c.code pc = .ok (.invokevirtual index, 3)) (hml : L.size = c.maxLocals) (argsL rest : List Value) (hst : st = argsL.reverse ++ .ref a :: rest) (has : (.ref a :: argsL).toArray = as) {ps : List FieldType} {r : Option FieldType} (hpd : parseMethodDescriptor y.desc = some ⟨ps, r⟩) (hln : argsL.length = ps.length) (W : Nat) (hW : 2 * 0 + (rest.map fun v => v.category).sum ≤ W) (hfr : rm.frames + 1 ≤ R.frames) (hlo : W + (ml + 11) + rm.locals ≤ R.locals) (hc : cells + rm.cells ≤ R.cells) (hs : slots + rm.slots ≤ R.slots) :
    ∃ v T' L', Stand p l e R s m args below meth c T' (locs ++ L') (cells + rm.cells) (slots + rm.slots) ∧ Q v T'.heap L' ∧ ∀ t, Steps p.tables e below (T'.setTop (mkF m (pc + 3) L (v.toList ++ rest))) t → Steps p.tables e below (T.setTop (mkF m pc L st)) t := by
  obtain ⟨cq, kq, qa, qb, qc⟩ := isOf hZ eT E
  obtain ⟨v, _, ⟨T', L1, k1, n1⟩, -, X', ⟨L', hQ, l1, y1, z1⟩, st'⟩ := X.virtualBack hx (y := y) (z := y) hown (mvT hZ w1) (mvT hZ w2) (notFace_of_selects (args := #[]) (mvT hZ w3)) (mvT hZ w3) (mvT hZ w4) hy (ct_back (W := W) C hZ w6 w5 hfr hlo) qa qc (g := mkF m pc L st) rfl hml (Steps.refl _) (argsL := argsL) (rest := rest) (lenOf hpd hln) hst hW hd (fun _ _ => ⟨has, eT, hc, hs⟩)
  dsimp only [Pt.U, Pt.locs, Pt.cells, Pt.slots] at X' l1 y1 z1 st' hQ
  subst l1 y1 z1
  exact ⟨v, T', L', X', hQ, fun t k => st'.trans k⟩
end Calls
end Jvm.OwnGo
namespace Jvm.OwnGo
open Sem ClassFile Op Lib Jvm.Stand Jvm.Free Jvm.LawKit Jvm.RoadKit
section Refs
variable {p : Program} {l : Launch} {e : Env} {R : Room} {s : State} {m : MethodId} {args : Array Value} {below : List Frame} {meth : Method} {c : Code} {T : State} {locs : List Loc} {cells slots : Nat} {pc : Nat} {Z : State} {h h' : Heap} {a y : Addr} {a0 : Array Value} {k : ClassId} {ty : FieldType} {vs : List Value} {C : String}
/-- the array class numbered k has components of type ty, whose class is C -/
def OvA (Z : State) (k : ClassId) (ty : FieldType) (C : String) : Prop := ∃ (kk : Class) (comp : ClassId), Z.vm.classes[k]? = some kk ∧ kk.kind = .array comp ty ∧ Z.vm.findClass C = some comp
theorem sto_of (A : AR Z h a k ty vs) {t : FieldType} (O : OvA Z k t C) (I : Ins Z h y C true) : Sto Z h a (.ref y) := by
  obtain ⟨cl, A1, rfl, -⟩ := A
  obtain ⟨kk, comp, o1, o2, o3⟩ := O
  obtain ⟨cv, cT, i1, i2, i3⟩ := I
  cases o3.symm.trans i2
  simp only [Bool.and_eq_true, Bool.not_eq_true'] at i3
  obtain ⟨kc, q⟩ := Vm.classAt_of_findClass o3
  obtain ⟨kv, q2⟩ := Vm.classAt_of_assignable i3.2 ⟨kc, q⟩
  exact Or.inr ⟨cl, cv, kk, kv, kc, _, _, y, A1.1, o1, o2, q, rfl, i1, i3.1, q2, i3.2⟩
/-- the word 'arrayOver' of an array type, opened -/
theorem ov_spec {t : FieldType} (w : (Cond.arrayOver (.array t)).before args s = true) : ∃ comp cA kA, s.vm.findClass (FieldType.array t).toString = some comp ∧ (s.vm.classes.findIdx? fun (x : Class) => match x.kind with | .array component _ => component == comp | _ => false) = some cA ∧ s.vm.classes[cA]? = some kA ∧ kA.kind = .array comp (.array t) ∧ s.vm.findClass ("[" ++ (FieldType.array t).toString) = some cA := by
  simp only [Cond.before, Cond.holds, Cond.value, beq_iff_eq] at w
  cases hc : s.vm.findClass (FieldType.array t).toString with
  | none => simp [hc] at w
  | some comp =>
    simp only [hc, Option.bind_some, Option.bind_eq_some_iff, Option.map_eq_some_iff] at w
    obtain ⟨cA, hi, kA, hk, hb⟩ := w
    obtain ⟨hlt, hp, -⟩ := Array.findIdx?_eq_some_iff_getElem.mp hi
    rw [(Array.getElem?_eq_some_iff.mp hk).2] at hp
    cases hkind : kA.kind with
    | array component ty =>
      rw [hkind] at hb hp
      have hp' : component = comp := by simpa using hp
      simp at hb
      exact ⟨comp, cA, kA, rfl, hi, hk, by rw [hkind, hp', hb.1], hb.2⟩
    | _ => rw [hkind] at hb; simp at hb
theorem ov_at {t : FieldType} (hZ : Z.Warmed39 s.vm) (w : (Cond.arrayOver (.array t)).before a0 Z = true) : (Cond.arrayOver (.array t)).before args s = true := by
  have h1 : (Cond.arrayOver (.array t)).before a0 (Z.setVm s.vm) = true := by rw [Cond.arrayOver_setVmC hZ.alike]; exact w
  exact h1
/-- anewarray of arrays -/
theorem s_anewarrayA (X : Stand p l e R s m args below meth c T locs cells slots) (hx : p.tables.exec = Jvm.exec) (hZ : Z.Warmed39 s.vm) {own : String} {index : Nat} {t : FieldType} (hown : s.vm.findClass own = some m.cls) (w1 : (Cond.classLink own index C).before a0 Z = true) (w2 : (Cond.arrayOver (.array t)).before a0 Z = true) (hC : (FieldType.array t).toString = C) (eT : T.heap = h) (hd : decode c.code pc = .ok (.anewarray index, 3)) (L : Array Slot) (st : List Value) {n : Int32} (cap : Nat) (hn : ¬ n < 0 ∧ n.toNatClampNeg = cap) (vs : List Value) (hvs : List.replicate cap Value.null = vs) (hb : cap * 4 ≤ 536870912) (hc : cells + 1 ≤ R.cells) (hl : slots + cap ≤ R.slots) (pc' : Nat) (hp : pc + 3 = pc') :
    ∃ T' h' cA, Stand p l e R s m args below meth c T' locs (cells + 1) (slots + cap) ∧ T'.heap = h' ∧ Ext h h' ∧ AR Z h' h.size cA (.array t) vs ∧ OvA Z cA (.array t) C ∧ ∀ tg, Steps p.tables e below (T'.setTop (mkF m pc' L (.ref h.size :: st))) tg → Steps p.tables e below (T.setTop (mkF m pc L (.int n :: st))) tg := by
  subst hp hvs hC eT
  obtain ⟨n1, n2⟩ := hn
  have hpl : e.platform.magicAccessors = ({} : Platform).magicAccessors := by rw [X.admits.platform]
  obtain ⟨comp, cA, kA, hcomp, hidx, hkA, hkindA, hnameA⟩ := ov_spec (args := args) (ov_at hZ w2)
  obtain ⟨kComp, hkComp, -⟩ := Vm.findClass_spec hcomp
  obtain ⟨cc, hfcc, hcl⟩ := Cond.classLink_spec hown (mv (args := args) hZ w1) e.platform hpl
  cases hcomp.symm.trans hfcc
  obtain ⟨hg₁, hwarm₁, hready₁⟩ := State.classEntry (e := e) X.warmed hcl
  generalize T.vm.noted m.cls index (.cls comp) = vm₁ at hg₁ hwarm₁ hready₁
  have hal : s.vm.Alike vm₁ := hwarm₁.alike
  obtain ⟨kComp₁, hkComp₁, -⟩ := hal.2.2 _ _ hkComp
  obtain ⟨kA₁, hkA₁, heA⟩ := hal.2.2 _ _ hkA
  have hkindA₁ : kA₁.kind = .array comp (.array t) := by rw [heA]; exact hkindA
  have hidx₁ : (vm₁.classes.findIdx? fun (x : Class) => match x.kind with | .array component _ => component == comp | _ => false) = some cA := by
    rw [hal.findIdx?_eqK _ (fun _ => rfl)]; exact hidx
  have hlimit : ¬ n.toNatClampNeg > e.platform.arrayLengthLimit := by rw [Launch.admits_arrayLengthLimit X.admits]; omega
  have hheap : ¬ n.toNatClampNeg * componentBytes (.array t) > e.platform.maxHeapBytes := by
    rw [Launch.admits_maxHeapBytes X.admits]; show ¬ n.toNatClampNeg * 4 > 536870912; omega
  have X₂ := (X.noted hwarm₁).pushed { cls := cA, slots := Array.replicate n.toNatClampNeg .null, vm := .none }
  obtain ⟨hr1, hr2⟩ := X.roomAbove hc (by rw [n2]; exact hl : slots + n.toNatClampNeg ≤ R.slots)
  rw [hZ.alike.findClass] at hnameA hcomp
  obtain ⟨kZ, z1, -⟩ := Vm.findClass_spec hnameA
  obtain ⟨k', z2, z3⟩ := hZ.alike.2.2 _ _ z1
  cases hkA.symm.trans z2
  have kk : kZ.kind = .array comp (.array t) := by rw [← hkindA, z3]
  refine ⟨((T.setVm vm₁).pushCell { cls := cA, slots := Array.replicate n.toNatClampNeg .null, vm := .none }), _, cA, (by have q := X₂; rw [← n2]; simpa using q), rfl, ext_of fun a q => Array.getElem?_push_lt q |>.trans (Array.getElem?_eq_getElem q).symm, ⟨{ cls := cA, slots := Array.replicate n.toNatClampNeg .null, vm := .none }, ⟨by show (T.heap.push _)[T.heap.size]? = _; simp, ⟨by simp, kZ, z1, comp, kk⟩, by simp⟩, rfl, by simp [n2]⟩, ⟨kZ, comp, z1, kk, hcomp⟩, fun target hrest => ?_⟩
  jvm_step X.here [hx, hd, anewarray.wp_cold (e := e) (s := T) (f := mkF m pc L (.int n :: st)) X.here.top hg₁ hready₁,
    anewarray.wp_ready (e := e) (s := T.setVm vm₁) (f := mkF m pc L (.int n :: st)) (kc := kComp₁) (k := kA₁) (type := .array t) X.here.top hready₁ hkComp₁ hidx₁ hkA₁ hkindA₁ rfl rfl n1 hlimit hheap]
  exact ⟨by show T.heap.size < _; omega, by show T.slotsUsed + _ ≤ _; exact hr2, hrest⟩
/-- newarray, with the new array's class by name -/
theorem s_newarrayE (X : Stand p l e R s m args below meth c T locs cells slots) (hx : p.tables.exec = Jvm.exec) (hZ : Z.Warmed39 s.vm) {aty : ArrayType} (w : (Cond.arrayClass (newarray.typeOf aty)).before a0 Z = true) (eT : T.heap = h) (hd : decode c.code pc = .ok (.newarray aty, 2)) (L : Array Slot) (st : List Value) {n : Int32} (cap : Nat) (hn : ¬ n < 0 ∧ n.toNatClampNeg = cap) (vs : List Value) (hvs : List.replicate cap (defaultValue (newarray.typeOf aty)) = vs) (hb : cap * 8 ≤ 536870912) (hc : cells + 1 ≤ R.cells) (hl : slots + cap ≤ R.slots) (pc' : Nat) (hp : pc + 2 = pc') (ad : String) (had : "[" ++ (newarray.typeOf aty).toString = ad) :
    ∃ T' h' cA, Stand p l e R s m args below meth c T' locs (cells + 1) (slots + cap) ∧ T'.heap = h' ∧ Ext h h' ∧ AR Z h' h.size cA (newarray.typeOf aty) vs ∧ Exa Z h' h.size ad ∧ ∀ t, Steps p.tables e below (T'.setTop (mkF m pc' L (.ref h.size :: st))) t → Steps p.tables e below (T.setTop (mkF m pc L (.int n :: st))) t := by
  obtain ⟨n1, n2⟩ := hn
  obtain ⟨T', h', cA, X', e', E, A, B, st'⟩ := newPE X hx hZ w eT (g := mkF m pc L (.int n :: st)) rfl hd rfl n1 (cap := cap) (Nat.le_of_eq n2) hb hc hl had
  subst hp hvs
  exact ⟨T', h', cA, X', e', E, ⟨_, A, rfl, by simp [newA, n2]⟩, B, st'⟩
end Refs
end Jvm.OwnGo
namespace Jvm.OwnFP
open Jvm.FP Jvm.FP.Core Jvm.Free.Fl
/-- a * 2^x = b -/
def PE (a b : Nat) (x : Int) : Prop := a * 2 ^ x.toNat = b * 2 ^ (-x).toNat
theorem pe_iff {a b : Nat} {x : Int} (y z : Nat) (h : x = (y : Int) - z) : PE a b x ↔ a * 2 ^ y = b * 2 ^ z := by
  unfold PE
  obtain ⟨d, rfl, rfl⟩ : ∃ d, y = x.toNat + d ∧ z = (-x).toNat + d := ⟨min y z, by omega, by omega⟩
  have p1 : 0 < 2 ^ d := Nat.two_pow_pos _
  rw [Nat.pow_add, Nat.pow_add, ← Nat.mul_assoc, ← Nat.mul_assoc]
  exact ⟨fun q => by rw [q], fun q => Nat.eq_of_mul_eq_mul_right p1 q⟩
theorem PE.symm {a b : Nat} {x : Int} (h : PE a b x) : PE b a (-x) := by
  unfold PE at h ⊢; rw [Int.neg_neg]; exact h.symm
theorem PE.trans {a b c : Nat} {x y : Int} (h : PE a b x) (g : PE b c y) : PE a c (x + y) := by
  rw [pe_iff (x.toNat + y.toNat) ((-x).toNat + (-y).toNat) (by omega)]
  unfold PE at h g
  rw [Nat.pow_add, Nat.pow_add, ← Nat.mul_assoc, h, Nat.mul_right_comm, g, Nat.mul_assoc, Nat.mul_comm (2 ^ (-y).toNat)]
theorem PE.mul {a b : Nat} {x : Int} (h : PE a b x) (c : Nat) : PE (c * a) (c * b) x := by
  unfold PE at h ⊢; rw [Nat.mul_assoc, Nat.mul_assoc, h]
theorem PE.of {a b : Nat} {y z : Nat} (h : a * 2 ^ y = b * 2 ^ z) : PE a b ((y : Int) - z) := (pe_iff y z rfl).mpr h
theorem PE.cast {a b : Nat} {x y : Int} (h : PE a b x) (e : x = y) : PE a b y := e ▸ h
/-- the datum times 2^k -/
def sh (k : Int) : Datum → Datum
  | .fin s c q => .fin s c (q + k)
  | d => d
/-- the double a is i / 2^k, just so -/
def Dy (i : Int) (k : Nat) (a : UInt64) : Prop := Whole i (sh k (val64 a))
theorem Dy.fin {i : Int} {k : Nat} {a : UInt64} (h : Dy i k a) : ∃ s c q, val64 a = .fin s c q := by
  unfold Dy at h
  cases hv : val64 a with
  | nan => rw [hv] at h; exact h.elim
  | inf s => rw [hv] at h; exact h.elim
  | fin s c q => exact ⟨s, c, q, rfl⟩
theorem Dy.dfin {i : Int} {k : Nat} {a : UInt64} (h : Dy i k a) : DFin a := h.fin
theorem Dy.fin64 {i : Int} {k : Nat} {a : UInt64} (h : Dy i k a) : Fin64 a := fin64_core.mpr h.fin
theorem Dy.nn {i : Int} {k : Nat} {a : UInt64} (h : Dy i k a) : NoNaN64 a := h.fin64.noNaN
theorem Dy.ne {i : Int} {k : Nat} {a : UInt64} (h : Dy i k a) : val64 a ≠ .nan := h.dfin.ne_nan
theorem dy_int {i : Int} {a : UInt64} (h : DInt i a) : Dy i 0 a := by
  unfold DInt at h; unfold Dy
  cases hv : val64 a with
  | nan => rw [hv] at h; exact h.elim
  | inf s => rw [hv] at h; exact h.elim
  | fin s c q => rw [hv] at h; show Whole i (.fin s c (q + 0)); rw [Int.add_zero]; exact h
theorem Dy.int {i : Int} {a : UInt64} (h : Dy i 0 a) : DInt i a := by
  obtain ⟨s, c, q, hv⟩ := h.fin
  unfold Dy at h; unfold DInt
  rw [hv] at h ⊢
  have h : Whole i (.fin s c (q + 0)) := h
  rw [Int.add_zero] at h; exact h
theorem dy_i2d (x : Int32) : Dy x.toInt 0 (FP.i2d x) := dy_int (i2d_int x)
theorem dy_l2d {x : Int64} (h : x.toInt.natAbs ≤ 2 ^ 53) : Dy x.toInt 0 (FP.l2d x) := dy_int (l2d_int h)
theorem whole_pe {i : Int} {s : Bool} {c : Nat} {q : Int} (h : Whole i (.fin s c q)) : PE c i.natAbs q := whole_natAbs h
/-- what is so small a multiple of a power of two is a double -/
theorem dy_rnd {i : Int} {k : Nat} {s : Bool} {n : Nat} (hn : i.natAbs = n) (hs : i ≠ 0 → s = decide (i < 0)) (hi : n ≤ 2 ^ 53) (hk : k ≤ 1000) : Whole i (sh k (roundRatio b64 s n 1 (-(k : Int)))) := by
  by_cases h0 : n = 0
  · have : i = 0 := by omega
    subst this
    unfold roundRatio
    rw [if_pos h0]
    show signed s (0 * _) = 0 * _
    rw [Nat.zero_mul, Int.zero_mul]; exact signed_zero s
  · obtain ⟨c, q, hfit, hv⟩ := natFit good_b64 wide_b64 s (n := n) hi
    have hq : q = -1074 ∨ b64.tails ≤ c := by have := hfit.2.2.2; rw [qmin_b64] at this; exact this
    have hv' : n * 2 ^ (-q).toNat = c * 2 ^ q.toNat := by
      rw [show (0 - q).toNat = (-q).toNat by omega, show (q - 0).toNat = q.toNat by omega, Nat.mul_one] at hv; exact hv
    have hc : c < 2 ^ 53 := hfit.1
    have hq2 : q ≤ b64.qmax := hfit.2.2.1
    have hq1 : -53 ≤ q := by
      refine Int.le_of_not_gt fun hlt => ?_
      have e1 : q.toNat = 0 := by omega
      rw [e1, Nat.pow_zero, Nat.mul_one] at hv'
      have : 2 ^ 53 ≤ 2 ^ (-q).toNat := Nat.pow_le_pow_right (by decide) (by omega)
      have h2 : 1 * 2 ^ 53 ≤ n * 2 ^ (-q).toNat := Nat.mul_le_mul (by omega) this
      omega
    have hfit2 : Core.fits b64 (.fin s c (q - k)) := by
      refine ⟨hfit.1, ?_, by omega, Or.inr ?_⟩
      · rw [qmin_b64]; omega
      · rcases hq with hq | hq
        · omega
        · exact hq
    rw [roundRatio_exact good_b64 (by decide) hfit2 (by
      rw [show (-(k : Int) - (q - k)).toNat = (-q).toNat by omega, show (q - (k : Int) - -(k : Int)).toNat = q.toNat by omega, Nat.mul_one]; exact hv')]
    show Whole i (.fin s c (q - k + k))
    rw [show q - (k : Int) + k = q by omega]
    show signed s (c * 2 ^ q.toNat) = i * _
    rw [← hv', signed_mul, hs (by omega)]
    congr 1
    unfold signed
    by_cases h : i < 0 <;> simp [h] <;> omega
theorem dy_round {i : Int} {k : Nat} {s : Bool} {c : Nat} {q : Int} (h : Whole i (.fin s c (q + k))) (hi : i.natAbs ≤ 2 ^ 53) (hk : k ≤ 1000) : Whole i (sh k (round b64 (.fin s c q))) := by
  have e : round b64 (.fin s c q) = roundRatio b64 s i.natAbs 1 (-(k : Int)) := by
    refine roundRatio_congr (by decide) (by decide) ?_
    have := whole_natAbs h
    rw [show (q - -(k : Int)).toNat = (q + k).toNat by omega, show (-(k : Int) - q).toNat = (-(q + k)).toNat by omega]
    simpa using this
  rw [e]
  exact dy_rnd rfl (fun hz => whole_sign h hz) hi hk
theorem sh_sum (k : Int) (s : Bool) (c : Nat) (q : Int) (t : Bool) (d : Nat) (r : Int) : sh k (exactSum (.fin s c q) (.fin t d r)) = exactSum (.fin s c (q + k)) (.fin t d (r + k)) := by
  have e : min (q + k) (r + k) = min q r + k := by omega
  simp only [exactSum, sh, e, sumUnits, inUnits]
  rw [show q + k - (min q r + k) = q - min q r by omega, show r + k - (min q r + k) = r - min q r by omega]
theorem dy_add {i j : Int} {k : Nat} {a b : UInt64} (ha : Dy i k a) (hb : Dy j k b) (h : (i + j).natAbs ≤ 2 ^ 53) (hk : k ≤ 1000) : Dy (i + j) k (FP.dadd a b) := by
  obtain ⟨s, c, q, ea⟩ := ha.fin
  obtain ⟨t, d, r, eb⟩ := hb.fin
  unfold Dy at ha hb ⊢
  rw [ea] at ha; rw [eb] at hb
  have w : Whole (i + j) (sh k (exactSum (.fin s c q) (.fin t d r))) := by rw [sh_sum]; exact whole_sum ha hb
  rw [show FP.dadd a b = Core.dadd a b from rfl, val64_dadd, ea, eb]
  exact dy_round w h hk
theorem dy_neg {i : Int} {k : Nat} {a : UInt64} (ha : Dy i k a) : Dy (-i) k (FP.dneg a) := by
  obtain ⟨s, c, q, ea⟩ := ha.fin
  unfold Dy at ha ⊢
  rw [ea] at ha
  rw [FP.val64_dneg, ea]
  exact whole_negate ha
theorem dy_sub {i j : Int} {k : Nat} {a b : UInt64} (ha : Dy i k a) (hb : Dy j k b) (h : (i - j).natAbs ≤ 2 ^ 53) (hk : k ≤ 1000) : Dy (i - j) k (FP.dsub a b) := by
  obtain ⟨s, c, q, ea⟩ := ha.fin
  obtain ⟨t, d, r, eb⟩ := hb.fin
  unfold Dy at ha hb ⊢
  rw [ea] at ha; rw [eb] at hb
  have hb' : Whole (-j) (.fin (!t) d (r + k)) := whole_negate hb
  have w : Whole (i - j) (sh k (exactSum (.fin s c q) (.fin (!t) d r))) := by rw [sh_sum]; exact whole_sum ha hb'
  rw [show FP.dsub a b = Core.dsub a b from rfl, val64_dsub, ea, eb]
  exact dy_round w h hk
theorem dy_mul {i j : Int} {k n : Nat} {a b : UInt64} (ha : Dy i k a) (hb : Dy j n b) (h : (i * j).natAbs ≤ 2 ^ 53) (hk : k + n ≤ 1000) : Dy (i * j) (k + n) (FP.dmul a b) := by
  obtain ⟨s, c, q, ea⟩ := ha.fin
  obtain ⟨t, d, r, eb⟩ := hb.fin
  unfold Dy at ha hb ⊢
  rw [ea] at ha; rw [eb] at hb
  have w : Whole (i * j) (.fin (s != t) (c * d) (q + r + (k + n : Nat))) := by
    have := whole_product ha hb
    rw [show q + r + ((k + n : Nat) : Int) = q + k + (r + n) by omega]; exact this
  rw [show FP.dmul a b = Core.dmul a b from rfl, val64_dmul, ea, eb]
  exact dy_round w h hk
theorem dy_up {i : Int} {k : Nat} {a : UInt64} (n : Nat) (ha : Dy i k a) : Dy (i * (2 ^ n : Nat)) (k + n) a := by
  obtain ⟨s, c, q, ea⟩ := ha.fin
  unfold Dy at ha ⊢
  rw [ea] at ha ⊢
  have ha : signed s (c * 2 ^ (q + k).toNat) = i * ((2 ^ (-(q + k)).toNat : Nat) : Int) := ha
  show signed s (c * 2 ^ (q + (k + n : Nat)).toNat) = i * (2 ^ n : Nat) * ((2 ^ (-(q + (k + n : Nat))).toNat : Nat) : Int)
  have p2 : ((2 ^ (-(q + (k : Int))).toNat : Nat) : Int) ≠ 0 := by have := Nat.two_pow_pos (-(q + (k : Int))).toNat; omega
  have e1 : (q + ((k + n : Nat) : Int)).toNat + (-(q + (k : Int))).toNat = (q + (k : Int)).toNat + (n + (-(q + ((k + n : Nat) : Int))).toNat) := by omega
  rw [signed_mul] at ha ⊢
  refine Int.eq_of_mul_eq_mul_right p2 ?_
  rw [Int.mul_assoc, ← Int.natCast_mul, ← Nat.pow_add, e1, Nat.pow_add, Int.natCast_mul, ← Int.mul_assoc, ha, Nat.pow_add, Int.natCast_mul]
  ac_rfl
theorem dy_cmp {i j : Int} {k : Nat} {a b : UInt64} (ha : Dy i k a) (hb : Dy j k b) : FP.dcmp a b = some (compare i j) := by
  obtain ⟨s, c, q, ea⟩ := ha.fin
  obtain ⟨t, d, r, eb⟩ := hb.fin
  unfold Dy at ha hb
  rw [ea] at ha; rw [eb] at hb
  have w := order_whole ha hb
  show order (val64 a) (val64 b) = _
  rw [ea, eb, ← w]
  have e : min (q + k) (r + k) = min q r + k := by omega
  simp only [order, sh, e, inUnits]
  rw [show q + k - (min q r + k) = q - min q r by omega, show r + k - (min q r + k) = r - min q r by omega]
theorem dy_div {i j t : Int} {k n r : Nat} {a b : UInt64} (ha : Dy i k a) (hb : Dy j n b) (hj : j ≠ 0) (h : i * (2 ^ (n + r) : Nat) = t * j * (2 ^ k : Nat)) (ht : t.natAbs ≤ 2 ^ 53) (hr : r ≤ 1000) : Dy t r (FP.ddiv a b) := by
  obtain ⟨s, c, q, ea⟩ := ha.fin
  obtain ⟨u, d, z, eb⟩ := hb.fin
  unfold Dy at ha hb ⊢
  rw [ea] at ha; rw [eb] at hb
  have ha : Whole i (.fin s c (q + k)) := ha
  have hb : Whole j (.fin u d (z + n)) := hb
  have hd : d ≠ 0 := fun e => hj ((whole_zero hb).mp e)
  rw [show FP.ddiv a b = Core.ddiv a b from rfl, val64_ddiv, ea, eb]
  show Whole t (sh r (if d = 0 then _ else roundRatio b64 (s != u) c d (q - z)))
  rw [if_neg hd]
  have pn : (0 : Int) < ((2 ^ (n + r) : Nat) : Int) := by have := Nat.two_pow_pos (n + r); omega
  have pk : (0 : Int) < ((2 ^ k : Nat) : Int) := by have := Nat.two_pow_pos k; omega
  have hn : i.natAbs * 2 ^ (n + r) = t.natAbs * j.natAbs * 2 ^ k := by
    have := congrArg Int.natAbs h
    rw [Int.natAbs_mul, Int.natAbs_mul, Int.natAbs_mul, Int.natAbs_natCast, Int.natAbs_natCast] at this
    exact this
  have e : roundRatio b64 (s != u) c d (q - z) = roundRatio b64 (s != u) t.natAbs 1 (-(r : Int)) := by
    refine roundRatio_congr (by omega) (by decide) ?_
    have g := ((whole_pe ha).trans (PE.of hn)).trans ((whole_pe hb).symm.mul t.natAbs)
    have g' : PE c (t.natAbs * d) (q - z + r) := g.cast (by omega)
    unfold PE at g'
    rw [show (q - z - -(r : Int)).toNat = (q - z + r).toNat by omega, show (-(r : Int) - (q - z)).toNat = (-(q - z + r)).toNat by omega, Nat.mul_one]
    exact g'
  rw [e]
  refine dy_rnd rfl (fun hz => ?_) ht hr
  have hi : i ≠ 0 := by
    rintro rfl
    rw [Int.zero_mul] at h
    rcases Int.mul_eq_zero.mp h.symm with q | q
    · rcases Int.mul_eq_zero.mp q with q | q
      · exact hz q
      · exact hj q
    · omega
  rw [whole_sign ha hi, whole_sign hb hj]
  have g1 : i < 0 ↔ t * j < 0 := by
    constructor
    · intro q
      have : t * j * ((2 ^ k : Nat) : Int) < 0 := by rw [← h]; exact Int.mul_neg_of_neg_of_pos q pn
      exact Int.lt_of_not_ge fun q' => by have := Int.mul_nonneg q' (Int.le_of_lt pk); omega
    · intro q
      have : i * ((2 ^ (n + r) : Nat) : Int) < 0 := by rw [h]; exact Int.mul_neg_of_neg_of_pos q pk
      exact Int.lt_of_not_ge fun q' => by have := Int.mul_nonneg q' (Int.le_of_lt pn); omega
  rcases Int.lt_or_lt_of_ne hz with ht0 | ht0 <;> rcases Int.lt_or_lt_of_ne hj with hj0 | hj0
  · have q1 := Int.mul_pos_of_neg_of_neg ht0 hj0
    have q2 : ¬ i < 0 := by rw [g1]; omega
    simp [ht0, hj0, q2]
  · have q1 := Int.mul_neg_of_neg_of_pos ht0 hj0
    have q2 : i < 0 := by rw [g1]; exact q1
    have q3 : ¬ j < 0 := by omega
    simp [ht0, q2, q3]
  · have q1 := Int.mul_neg_of_pos_of_neg ht0 hj0
    have q2 : i < 0 := by rw [g1]; exact q1
    have q3 : ¬ t < 0 := by omega
    simp [hj0, q2, q3]
  · have q1 := Int.mul_pos ht0 hj0
    have q2 : ¬ i < 0 := by rw [g1]; omega
    have q3 : ¬ t < 0 := by omega
    have q4 : ¬ j < 0 := by omega
    simp [q2, q3, q4]
theorem dy_eq {i j : Int} {k : Nat} {a b : UInt64} (ha : Dy i k a) (hb : Dy j k b) (h : i = j) : FP.dcmp a b = some .eq := by
  rw [dy_cmp ha hb, h, compare_self_int]
theorem dy_lt {i j : Int} {k : Nat} {a b : UInt64} (ha : Dy i k a) (hb : Dy j k b) (h : i < j) : FP.dcmp a b = some .lt := by
  rw [dy_cmp ha hb, (compare_lt_iff i j).mpr h]
theorem dy_gt {i j : Int} {k : Nat} {a b : UInt64} (ha : Dy i k a) (hb : Dy j k b) (h : j < i) : FP.dcmp a b = some .gt := by
  rw [dy_cmp ha hb, (compare_gt_iff i j).mpr h]
theorem dy_cast {i j : Int} {k n : Nat} {a : UInt64} (h : Dy i k a) (e : i = j) (e' : k = n) : Dy j n a := by subst e e'; exact h
theorem dy_zero : Dy 0 0 (0 : UInt64) := by
  show Whole 0 (sh 0 (val64 0)); rw [val64_zero]
  show signed false (0 * _) = 0 * _
  rw [Nat.zero_mul, Int.zero_mul]; rfl
end Jvm.OwnFP
namespace Jvm.OwnFP
open Jvm.FP Jvm.FP.Core Jvm.Free.Fl
/-! ## numbers with a bound: an int, a long, a double that is i (over 2^k), i at most N -/
def Ib (N : Nat) (i : Int) (x : Int32) : Prop := x.toInt = i ∧ i.natAbs ≤ N
def Lb (N : Nat) (i : Int) (x : Int64) : Prop := x.toInt = i ∧ i.natAbs ≤ N
def Db (N : Nat) (i : Int) (k : Nat) (a : UInt64) : Prop := Dy i k a ∧ i.natAbs ≤ N
theorem Ib.lit (N : Nat) (i : Int) (x : Int32) (h : x.toInt = i ∧ i.natAbs ≤ N := by decide) : Ib N i x := h
theorem Lb.lit (N : Nat) (i : Int) (x : Int64) (h : x.toInt = i ∧ i.natAbs ≤ N := by decide) : Lb N i x := h
theorem Ib.any (x : Int32) : Ib (2 ^ 31) x.toInt x := ⟨rfl, by have := x.toInt_lt; have := x.le_toInt; omega⟩
theorem Ib.cast {N M : Nat} {i j : Int} {x : Int32} (h : Ib N i x) (e : i = j) (g : j.natAbs ≤ M) : Ib M j x := ⟨h.1.trans e, g⟩
theorem Lb.cast {N M : Nat} {i j : Int} {x : Int64} (h : Lb N i x) (e : i = j) (g : j.natAbs ≤ M) : Lb M j x := ⟨h.1.trans e, g⟩
theorem Db.cast {N M : Nat} {i j : Int} {k : Nat} {a : UInt64} (h : Db N i k a) (e : i = j) (g : j.natAbs ≤ M) : Db M j k a := by subst e; exact ⟨h.1, g⟩
theorem bn_add {a b : Int} {N M : Nat} (h1 : a.natAbs ≤ N) (h2 : b.natAbs ≤ M) : (a + b).natAbs ≤ N + M := by omega
theorem bn_sub {a b : Int} {N M : Nat} (h1 : a.natAbs ≤ N) (h2 : b.natAbs ≤ M) : (a - b).natAbs ≤ N + M := by omega
theorem bn_mul {a b : Int} {N M : Nat} (h1 : a.natAbs ≤ N) (h2 : b.natAbs ≤ M) : (a * b).natAbs ≤ N * M := by rw [Int.natAbs_mul]; exact Nat.mul_le_mul h1 h2
section
variable {N M : Nat} {i j : Int} {k n : Nat}
theorem Ib.add {x y : Int32} (h1 : Ib N i x) (h2 : Ib M j y) (h : N + M < 2147483648) : Ib (N + M) (i + j) (x + y) := by
  obtain ⟨rfl, b1⟩ := h1
  obtain ⟨rfl, b2⟩ := h2
  have b := bn_add b1 b2
  exact ⟨Jvm.Free.XT.add32 ⟨by omega, by omega⟩, b⟩
theorem Ib.sub {x y : Int32} (h1 : Ib N i x) (h2 : Ib M j y) (h : N + M < 2147483648) : Ib (N + M) (i - j) (x - y) := by
  obtain ⟨rfl, b1⟩ := h1
  obtain ⟨rfl, b2⟩ := h2
  have b := bn_sub b1 b2
  exact ⟨Jvm.Free.XT.sub32 ⟨by omega, by omega⟩, b⟩
theorem Ib.mul {x y : Int32} (h1 : Ib N i x) (h2 : Ib M j y) (h : N * M < 2147483648) : Ib (N * M) (i * j) (x * y) := by
  obtain ⟨rfl, b1⟩ := h1
  obtain ⟨rfl, b2⟩ := h2
  have b := bn_mul b1 b2
  exact ⟨Jvm.Free.XT.mul32 ⟨by omega, by omega⟩, b⟩
theorem Lb.add {x y : Int64} (h1 : Lb N i x) (h2 : Lb M j y) (h : N + M < 9223372036854775808) : Lb (N + M) (i + j) (x + y) := by
  obtain ⟨rfl, b1⟩ := h1
  obtain ⟨rfl, b2⟩ := h2
  have b := bn_add b1 b2
  exact ⟨Jvm.Free.XT.add64 ⟨by omega, by omega⟩, b⟩
theorem Lb.sub {x y : Int64} (h1 : Lb N i x) (h2 : Lb M j y) (h : N + M < 9223372036854775808) : Lb (N + M) (i - j) (x - y) := by
  obtain ⟨rfl, b1⟩ := h1
  obtain ⟨rfl, b2⟩ := h2
  have b := bn_sub b1 b2
  exact ⟨Jvm.Free.XT.sub64 ⟨by omega, by omega⟩, b⟩
theorem Lb.mul {x y : Int64} (h1 : Lb N i x) (h2 : Lb M j y) (h : N * M < 9223372036854775808) : Lb (N * M) (i * j) (x * y) := by
  obtain ⟨rfl, b1⟩ := h1
  obtain ⟨rfl, b2⟩ := h2
  have b := bn_mul b1 b2
  exact ⟨Jvm.Free.XT.mul64 ⟨by omega, by omega⟩, b⟩
theorem Lb.neg {x : Int64} (h1 : Lb N i x) (h : N < 9223372036854775808) : Lb N (-i) (-x) := by
  obtain ⟨rfl, h2⟩ := h1
  exact ⟨int64_neg (by omega), by omega⟩
theorem Ib.i2l {x : Int32} (h : Ib N i x) : Lb N i x.toInt64 := ⟨(Int32.toInt_toInt64 x).trans h.1, h.2⟩
theorem Lb.l2i {x : Int64} (h : Lb N i x) (hN : N < 2147483648) : Ib N i x.toInt32 := by
  obtain ⟨rfl, h2⟩ := h
  exact ⟨int64_toInt32 (by omega) (by omega), h2⟩
theorem Ib.i2d {x : Int32} (h : Ib N i x) : Db N i 0 (FP.i2d x) := by obtain ⟨rfl, h2⟩ := h; exact ⟨dy_i2d x, h2⟩
theorem Lb.l2d {x : Int64} (h : Lb N i x) (hN : N ≤ 9007199254740992) : Db N i 0 (FP.l2d x) := by obtain ⟨rfl, h2⟩ := h; exact ⟨dy_l2d (Nat.le_trans h2 hN), h2⟩
theorem Db.nn {a : UInt64} (h : Db N i k a) : NoNaN64 a := h.1.nn
theorem Db.add {a b : UInt64} (h1 : Db N i k a) (h2 : Db M j k b) (h : N + M ≤ 9007199254740992 ∧ k ≤ 1000) : Db (N + M) (i + j) k (FP.dadd a b) :=
  ⟨dy_add h1.1 h2.1 (Nat.le_trans (bn_add h1.2 h2.2) h.1) h.2, bn_add h1.2 h2.2⟩
theorem Db.sub {a b : UInt64} (h1 : Db N i k a) (h2 : Db M j k b) (h : N + M ≤ 9007199254740992 ∧ k ≤ 1000) : Db (N + M) (i - j) k (FP.dsub a b) :=
  ⟨dy_sub h1.1 h2.1 (Nat.le_trans (bn_sub h1.2 h2.2) h.1) h.2, bn_sub h1.2 h2.2⟩
theorem Db.mul {a b : UInt64} (h1 : Db N i k a) (h2 : Db M j n b) (h : N * M ≤ 9007199254740992 ∧ k + n ≤ 1000) : Db (N * M) (i * j) (k + n) (FP.dmul a b) :=
  ⟨dy_mul h1.1 h2.1 (Nat.le_trans (bn_mul h1.2 h2.2) h.1) h.2, bn_mul h1.2 h2.2⟩
theorem Db.neg {a : UInt64} (h1 : Db N i k a) : Db N (-i) k (FP.dneg a) := ⟨dy_neg h1.1, by have := h1.2; omega⟩
theorem Db.eq {a b : UInt64} (h1 : Db N i k a) (h2 : Db M j k b) (e : i = j) : FP.dcmp a b = some .eq := dy_eq h1.1 h2.1 e
theorem Db.up {a : UInt64} (h : Db N i k a) (n : Nat) : Db (N * 2 ^ n) (i * (2 ^ n : Nat)) (k + n) a := ⟨dy_up n h.1, by rw [Int.natAbs_mul, Int.natAbs_natCast]; exact Nat.mul_le_mul_right _ h.2⟩
theorem Db.zero : Db 0 0 0 (0 : UInt64) := ⟨dy_zero, Nat.le_refl _⟩
theorem Db.div2 {a b : UInt64} (e : Nat) (h1 : Db N i k a) (h2 : Db M ((2 ^ e : Nat) : Int) 0 b) (h : N ≤ 9007199254740992 ∧ k + e ≤ 1000) : Db N i (k + e) (FP.ddiv a b) := by
  refine ⟨dy_div h1.1 h2.1 (by have := Nat.two_pow_pos e; omega) ?_ (Nat.le_trans h1.2 h.1) h.2, h1.2⟩
  rw [Nat.zero_add, Nat.pow_add, Int.natCast_mul, Int.mul_assoc, Int.mul_comm ((2 ^ k : Nat) : Int)]
theorem Db.lit {a : UInt64} (s : Bool) (c : Nat) (q : Int) (N : Nat) (i : Int) (k : Nat) (e : val64 a = .fin s c q) (w : signed s (c * 2 ^ (q + k).toNat) = i * ((2 ^ (-(q + (k : Int))).toNat : Nat) : Int) ∧ i.natAbs ≤ N) : Db N i k a := by
  refine ⟨?_, w.2⟩
  unfold Dy; rw [e]; exact w.1
theorem Ib.re {x : Int32} (h : Ib N i x) : Ib N x.toInt x := ⟨rfl, by rw [h.1]; exact h.2⟩
theorem Lb.re {x : Int64} (h : Lb N i x) : Lb N x.toInt x := ⟨rfl, by rw [h.1]; exact h.2⟩
theorem Db.weak {M : Nat} {a : UInt64} (h : Db N i k a) (q : N ≤ M) : Db M i k a := ⟨h.1, Nat.le_trans h.2 q⟩
theorem Lb.weak {M : Nat} {a : Int64} (h : Lb N i a) (q : N ≤ M) : Lb M i a := ⟨h.1, Nat.le_trans h.2 q⟩
theorem Ib.weak {M : Nat} {a : Int32} (h : Ib N i a) (q : N ≤ M) : Ib M i a := ⟨h.1, Nat.le_trans h.2 q⟩
end
end Jvm.OwnFP
namespace Jvm.Pilot.@@N@@
open Jvm Jvm.ClassFile Sem Op Lib Jvm.Free Jvm.Stand Jvm.LawKit Jvm.RoadKit Bundle Jvm.Pilot.@@N@@.Jvm.D Jvm.OwnGo
theorem wd {a0 : Array Value} {Z : State} (hw : ∀ d ∈ tables_1, d.before a0 Z = true) (k : Nat) (d : Jvm.Cond) (hd : tables_1[k]? = some d) : d.before a0 Z = true := hw _ (List.mem_of_getElem? hd)
theorem pn_law : plainFor x = true := plainFor_of_name (by show plainName "com/example/twelvefold/twelvefold/FrameTransformMatrixToArrayPinLaw" = true; first | (simp [plainName, overriddenIn]; done) | decide +kernel)
open Jvm.OwnFP
theorem d0_0 : decode prog_6_method_1_code 0 = .ok (.aload_n 0, 1) := by decide +kernel
theorem d0_1 : decode prog_6_method_1_code 1 = .ok (.invokespecial 1, 3) := by decide +kernel
theorem d0_4 : decode prog_6_method_1_code 4 = .ok (.aload_n 0, 1) := by decide +kernel
theorem d0_5 : decode prog_6_method_1_code 5 = .ok (.aload_n 1, 1) := by decide +kernel
theorem d0_6 : decode prog_6_method_1_code 6 = .ok (.putfield 7, 3) := by decide +kernel
theorem d0_9 : decode prog_6_method_1_code 9 = .ok (.return_, 1) := by decide +kernel
theorem pd_0 : parseMethodDescriptor "([D)V" = some ⟨[.array .double], none⟩ := by decide +kernel
theorem pn_0 : plainFor (⟨"com/example/twelvefold/twelvefold/FrameTransformMatrix", "<init>", "([D)V"⟩ : MethodName) = true := plainFor_of_name (by show plainName "com/example/twelvefold/twelvefold/FrameTransformMatrix" = true; first | (simp [plainName, overriddenIn]; done) | decide +kernel)
set_option maxRecDepth 65536 in
set_option maxHeartbeats 40000000 in
theorem rm_init (l : Launch) (Z : State) (a0 : Array Value) (hw : ∀ d ∈ tables_1, d.before a0 Z = true) (ws : List Jvm.Cond) (a1 : Addr) (x0 : Addr) (h0 : Heap) (n0 : Nat) (Z0 : n0 ≤ h0.size) (E1 : Exa Z h0 a1 "com/example/twelvefold/twelvefold/FrameTransformMatrix") (g1 : n0 ≤ a1) (F_0 : Fld Z h0 a1 "com/example/twelvefold/twelvefold/FrameTransformMatrix" "elements" "[D" (.null))  :
    Ct l Z (⟨"com/example/twelvefold/twelvefold/FrameTransformMatrix", "<init>", "([D)V"⟩ : MethodName) prog_6_method_1_code 2 none ws ({ frames := 1, cells := 0, slots := 0, locals := 12 } : Room) #[.ref a1, .ref x0] h0 (fun w h L => w = none ∧ Fr n0 L ∧ Keep h0 h [a1] ∧ Fld Z h a1 "com/example/twelvefold/twelvefold/FrameTransformMatrix" "elements" "[D" (.ref x0)) := by
  refine Ct.intro pn_0 #[.val (.ref a1), .val (.ref x0)] (fun _ => by first | (simp [entryFrame, mkF, argsToLocals, Value.category, maxLocals]; done) | rfl) ?_
  intro p e s m below meth c T0 X0 hx hZ hby hml hown hnm hret hlk e0
  have N0 := Fr.nil n0
  have K0 := Keep.refl h0 [a1]
  refine s_aloadN X0 hx (hb hby d0_0) rfl rfl 1 rfl ?_
  obtain ⟨T1, X1, e1, st1⟩ := initO X0 hx hZ hown (wd hw 8 _ rfl) (wd hw 9 _ rfl) (wd hw 10 _ rfl) e0 (g := (mkF m 1 #[.val (.ref a1), .val (.ref x0)] [.ref a1])) rfl (by rw [hml]; rfl) rfl (hb hby d0_1) (by decide) (W := 0) (by show 2 * 0 + _ ≤ _; exact Nat.le_of_eq rfl) (by decide)
  refine Go.via st1 ?_
  show Go p e below _ (T1.setTop (mkF m 4 #[.val (.ref a1), .val (.ref x0)] []))
  refine s_aloadN X1 hx (hb hby d0_4) rfl rfl 5 rfl ?_
  refine s_aloadN X1 hx (hb hby d0_5) rfl rfl 6 rfl ?_
  obtain ⟨T2, h2, X2, e2, W2, st2⟩ := putF X1 hx hZ hown (host := "") (Or.inl (wd hw 11 _ rfl)) Via.refl e1 F_0 E1 (Or.inr ⟨(wd hw 12 _ rfl), rfl, hnm⟩) (wd hw 3 _ rfl) (ty := .array .double) (by decide) rfl rfl (g := (mkF m 6 #[.val (.ref a1), .val (.ref x0)] [.ref x0, .ref a1])) rfl rfl (hb hby d0_6)
  have N2 := Fr.snoc X2 N0 g1
  have F3 := F_0.same W2
  have F4 := E1.wr W2
  have Z5 : n0 ≤ h2.size := by rw [W2.size]; exact Z0
  have K6 := K0.wr W2 (Or.inl (by simp))
  refine Go.via st2 ?_
  show Go p e below _ (T2.setTop (mkF m 9 #[.val (.ref a1), .val (.ref x0)] []))
  exact retV X2 hx hlk hret (hb hby d0_9) e2 ⟨rfl, N2, K6, F3⟩ (by decide) (by decide)
theorem d2_0 : decode prog_6_method_7_code 0 = .ok (.aload_n 0, 1) := by decide +kernel
theorem d2_1 : decode prog_6_method_7_code 1 = .ok (.getfield 7, 3) := by decide +kernel
theorem d2_4 : decode prog_6_method_7_code 4 = .ok (.astore_n 1, 1) := by decide +kernel
theorem d2_5 : decode prog_6_method_7_code 5 = .ok (.iconst 3, 1) := by decide +kernel
theorem d2_6 : decode prog_6_method_7_code 6 = .ok (.anewarray 45, 3) := by decide +kernel
theorem d2_9 : decode prog_6_method_7_code 9 = .ok (.dup, 1) := by decide +kernel
theorem d2_10 : decode prog_6_method_7_code 10 = .ok (.iconst 0, 1) := by decide +kernel
theorem d2_11 : decode prog_6_method_7_code 11 = .ok (.iconst 3, 1) := by decide +kernel
theorem d2_12 : decode prog_6_method_7_code 12 = .ok (.newarray .double, 2) := by decide +kernel
theorem d2_14 : decode prog_6_method_7_code 14 = .ok (.dup, 1) := by decide +kernel
theorem d2_15 : decode prog_6_method_7_code 15 = .ok (.iconst 0, 1) := by decide +kernel
theorem d2_16 : decode prog_6_method_7_code 16 = .ok (.aload_n 1, 1) := by decide +kernel
theorem d2_17 : decode prog_6_method_7_code 17 = .ok (.iconst 0, 1) := by decide +kernel
theorem d2_18 : decode prog_6_method_7_code 18 = .ok (.daload, 1) := by decide +kernel
theorem d2_19 : decode prog_6_method_7_code 19 = .ok (.dastore, 1) := by decide +kernel
theorem d2_20 : decode prog_6_method_7_code 20 = .ok (.dup, 1) := by decide +kernel
theorem d2_21 : decode prog_6_method_7_code 21 = .ok (.iconst 1, 1) := by decide +kernel
theorem d2_22 : decode prog_6_method_7_code 22 = .ok (.aload_n 1, 1) := by decide +kernel
theorem d2_23 : decode prog_6_method_7_code 23 = .ok (.iconst 1, 1) := by decide +kernel
theorem d2_24 : decode prog_6_method_7_code 24 = .ok (.daload, 1) := by decide +kernel
theorem d2_25 : decode prog_6_method_7_code 25 = .ok (.dastore, 1) := by decide +kernel
theorem d2_26 : decode prog_6_method_7_code 26 = .ok (.dup, 1) := by decide +kernel
theorem d2_27 : decode prog_6_method_7_code 27 = .ok (.iconst 2, 1) := by decide +kernel
theorem d2_28 : decode prog_6_method_7_code 28 = .ok (.aload_n 1, 1) := by decide +kernel
theorem d2_29 : decode prog_6_method_7_code 29 = .ok (.iconst 2, 1) := by decide +kernel
theorem d2_30 : decode prog_6_method_7_code 30 = .ok (.daload, 1) := by decide +kernel
theorem d2_31 : decode prog_6_method_7_code 31 = .ok (.dastore, 1) := by decide +kernel
theorem d2_32 : decode prog_6_method_7_code 32 = .ok (.aastore, 1) := by decide +kernel
theorem d2_33 : decode prog_6_method_7_code 33 = .ok (.dup, 1) := by decide +kernel
theorem d2_34 : decode prog_6_method_7_code 34 = .ok (.iconst 1, 1) := by decide +kernel
theorem d2_35 : decode prog_6_method_7_code 35 = .ok (.iconst 3, 1) := by decide +kernel
theorem d2_36 : decode prog_6_method_7_code 36 = .ok (.newarray .double, 2) := by decide +kernel
theorem d2_38 : decode prog_6_method_7_code 38 = .ok (.dup, 1) := by decide +kernel
theorem d2_39 : decode prog_6_method_7_code 39 = .ok (.iconst 0, 1) := by decide +kernel
theorem d2_40 : decode prog_6_method_7_code 40 = .ok (.aload_n 1, 1) := by decide +kernel
theorem d2_41 : decode prog_6_method_7_code 41 = .ok (.iconst 3, 1) := by decide +kernel
theorem d2_42 : decode prog_6_method_7_code 42 = .ok (.daload, 1) := by decide +kernel
theorem d2_43 : decode prog_6_method_7_code 43 = .ok (.dastore, 1) := by decide +kernel
theorem d2_44 : decode prog_6_method_7_code 44 = .ok (.dup, 1) := by decide +kernel
theorem d2_45 : decode prog_6_method_7_code 45 = .ok (.iconst 1, 1) := by decide +kernel
theorem d2_46 : decode prog_6_method_7_code 46 = .ok (.aload_n 1, 1) := by decide +kernel
theorem d2_47 : decode prog_6_method_7_code 47 = .ok (.iconst 4, 1) := by decide +kernel
theorem d2_48 : decode prog_6_method_7_code 48 = .ok (.daload, 1) := by decide +kernel
theorem d2_49 : decode prog_6_method_7_code 49 = .ok (.dastore, 1) := by decide +kernel
theorem d2_50 : decode prog_6_method_7_code 50 = .ok (.dup, 1) := by decide +kernel
theorem d2_51 : decode prog_6_method_7_code 51 = .ok (.iconst 2, 1) := by decide +kernel
theorem d2_52 : decode prog_6_method_7_code 52 = .ok (.aload_n 1, 1) := by decide +kernel
theorem d2_53 : decode prog_6_method_7_code 53 = .ok (.iconst 5, 1) := by decide +kernel
theorem d2_54 : decode prog_6_method_7_code 54 = .ok (.daload, 1) := by decide +kernel
theorem d2_55 : decode prog_6_method_7_code 55 = .ok (.dastore, 1) := by decide +kernel
theorem d2_56 : decode prog_6_method_7_code 56 = .ok (.aastore, 1) := by decide +kernel
theorem d2_57 : decode prog_6_method_7_code 57 = .ok (.dup, 1) := by decide +kernel
theorem d2_58 : decode prog_6_method_7_code 58 = .ok (.iconst 2, 1) := by decide +kernel
theorem d2_59 : decode prog_6_method_7_code 59 = .ok (.iconst 3, 1) := by decide +kernel
theorem d2_60 : decode prog_6_method_7_code 60 = .ok (.newarray .double, 2) := by decide +kernel
theorem d2_62 : decode prog_6_method_7_code 62 = .ok (.dup, 1) := by decide +kernel
theorem d2_63 : decode prog_6_method_7_code 63 = .ok (.iconst 0, 1) := by decide +kernel
theorem d2_64 : decode prog_6_method_7_code 64 = .ok (.aload_n 1, 1) := by decide +kernel
theorem d2_65 : decode prog_6_method_7_code 65 = .ok (.bipush 6, 2) := by decide +kernel
theorem d2_67 : decode prog_6_method_7_code 67 = .ok (.daload, 1) := by decide +kernel
theorem d2_68 : decode prog_6_method_7_code 68 = .ok (.dastore, 1) := by decide +kernel
theorem d2_69 : decode prog_6_method_7_code 69 = .ok (.dup, 1) := by decide +kernel
theorem d2_70 : decode prog_6_method_7_code 70 = .ok (.iconst 1, 1) := by decide +kernel
theorem d2_71 : decode prog_6_method_7_code 71 = .ok (.aload_n 1, 1) := by decide +kernel
theorem d2_72 : decode prog_6_method_7_code 72 = .ok (.bipush 7, 2) := by decide +kernel
theorem d2_74 : decode prog_6_method_7_code 74 = .ok (.daload, 1) := by decide +kernel
theorem d2_75 : decode prog_6_method_7_code 75 = .ok (.dastore, 1) := by decide +kernel
theorem d2_76 : decode prog_6_method_7_code 76 = .ok (.dup, 1) := by decide +kernel
theorem d2_77 : decode prog_6_method_7_code 77 = .ok (.iconst 2, 1) := by decide +kernel
theorem d2_78 : decode prog_6_method_7_code 78 = .ok (.aload_n 1, 1) := by decide +kernel
theorem d2_79 : decode prog_6_method_7_code 79 = .ok (.bipush 8, 2) := by decide +kernel
theorem d2_81 : decode prog_6_method_7_code 81 = .ok (.daload, 1) := by decide +kernel
theorem d2_82 : decode prog_6_method_7_code 82 = .ok (.dastore, 1) := by decide +kernel
theorem d2_83 : decode prog_6_method_7_code 83 = .ok (.aastore, 1) := by decide +kernel
theorem d2_84 : decode prog_6_method_7_code 84 = .ok (.areturn, 1) := by decide +kernel
theorem pd_2 : parseMethodDescriptor "()[[D" = some ⟨[], some (.array (.array .double))⟩ := by decide +kernel
theorem pn_2 : plainFor (⟨"com/example/twelvefold/twelvefold/FrameTransformMatrix", "toArray", "()[[D"⟩ : MethodName) = true := plainFor_of_name (by show plainName "com/example/twelvefold/twelvefold/FrameTransformMatrix" = true; first | (simp [plainName, overriddenIn]; done) | decide +kernel)
set_option maxRecDepth 65536 in
set_option maxHeartbeats 40000000 in
theorem rm_ta (l : Launch) (Z : State) (a0 : Array Value) (hw : ∀ d ∈ tables_1, d.before a0 Z = true) (ws : List Jvm.Cond) (a1 a2 : Addr) (k2 : ClassId) (x0 x1 x2 x3 x4 x5 x6 x7 x8 : UInt64) (h0 : Heap) (n0 : Nat) (Z0 : n0 ≤ h0.size) (F_1 : Fld Z h0 a1 "com/example/twelvefold/twelvefold/FrameTransformMatrix" "elements" "[D" (.ref a2)) (A2 : AR Z h0 a2 k2 .double [.double x0, .double x1, .double x2, .double x3, .double x4, .double x5, .double x6, .double x7, .double x8]) :
    Ct l Z (⟨"com/example/twelvefold/twelvefold/FrameTransformMatrix", "toArray", "()[[D"⟩ : MethodName) prog_6_method_7_code 2 (some (.array (.array .double))) ws ({ frames := 0, cells := 4, slots := 12, locals := 0 } : Room) #[.ref a1] h0 (fun v h L => ∃ a r0 r1 r2 k s0 s1 s2, v = some (.ref a) ∧ Fr n0 L ∧ Keep h0 h [] ∧ h0.size ≤ a ∧ h0.size ≤ r0 ∧ h0.size ≤ r1 ∧ h0.size ≤ r2 ∧ a ≠ r0 ∧ a ≠ r1 ∧ a ≠ r2 ∧ r0 ≠ r1 ∧ r0 ≠ r2 ∧ r1 ≠ r2 ∧ AR Z h a k (.array .double) [.ref r0, .ref r1, .ref r2] ∧ AR Z h r0 s0 .double [.double x0, .double x1, .double x2] ∧ AR Z h r1 s1 .double [.double x3, .double x4, .double x5] ∧ AR Z h r2 s2 .double [.double x6, .double x7, .double x8]) := by
  refine Ct.intro pn_2 #[.val (.ref a1), .unset] (fun _ => by first | (simp [entryFrame, mkF, argsToLocals, Value.category, maxLocals]; done) | rfl) ?_
  intro p e s m below meth c T0 X0 hx hZ hby hml hown hnm hret hlk e0
  have N0 := Fr.nil n0
  have K0 := Keep.refl h0 []
  refine s_aloadN X0 hx (hb hby d2_0) rfl rfl 1 rfl ?_
  obtain ⟨T7, X7, e7, st7⟩ := getF X0 hx hZ hown (host := "") (Or.inl (wd hw 11 _ rfl)) Via.refl e0 F_1 (g := (mkF m 1 #[.val (.ref a1), .unset] [.ref a1])) rfl rfl (hb hby d2_1)
  refine Go.via st7 ?_
  show Go p e below _ (T7.setTop (mkF m 4 #[.val (.ref a1), .unset] [.ref a2]))
  refine s_astoreN X7 hx (hb hby d2_4) rfl #[.val (.ref a1), .val (.ref a2)] rfl 5 rfl ?_
  refine s_iconst X7 hx (hb hby d2_5) (3 : Int32) rfl 6 rfl ?_
  obtain ⟨T8, h8, c8, X8, e8, E8, A8, O8, st8⟩ := s_anewarrayA X7 hx hZ (t := .double) hown (wd hw 18 _ rfl) (wd hw 19 _ rfl) (by decide) e7 (hb hby d2_6) #[.val (.ref a1), .val (.ref a2)] [] (n := (3 : Int32)) 3 (by decide) [.null, .null, .null] rfl (by decide) (by decide) (by decide) 9 rfl
  obtain ⟨a8, g8⟩ : ∃ z, z = h0.size := ⟨_, rfl⟩
  rw [← g8] at A8 st8
  have ne9 : a1 ≠ a8 := by rw [g8]; exact Nat.ne_of_lt F_1.lt
  have ne10 : a2 ≠ a8 := by rw [g8]; exact Nat.ne_of_lt A2.lt
  have q11 : n0 ≤ a8 := by rw [g8]; exact Z0
  have q12 : h0.size ≤ a8 := by rw [g8]; exact K0.1
  have K13 := K0.ext E8
  have F14 := F_1.ext E8
  have F15 := A2.ext E8
  have Z16 := Nat.le_trans Z0 E8.1
  refine Go.via st8 ?_
  refine s_dup X8 hx (hb hby d2_9) rfl 10 rfl ?_
  refine s_iconst X8 hx (hb hby d2_10) (0 : Int32) rfl 11 rfl ?_
  refine s_iconst X8 hx (hb hby d2_11) (3 : Int32) rfl 12 rfl ?_
  obtain ⟨T17, h17, c17, X17, e17, E17, A17, B17, st17⟩ := s_newarrayE X8 hx hZ (aty := .double) (wd hw 0 _ rfl) e8 (hb hby d2_12) #[.val (.ref a1), .val (.ref a2)] [.int (0 : Int32), .ref a8, .ref a8] (n := (3 : Int32)) 3 (by decide) [.double (0 : UInt64), .double (0 : UInt64), .double (0 : UInt64)] rfl (by decide) (by decide) (by decide) 14 rfl "[D" (by decide)
  obtain ⟨a17, g17⟩ : ∃ z, z = h8.size := ⟨_, rfl⟩
  rw [← g17] at A17 B17 st17
  have ne18 : a1 ≠ a17 := by rw [g17]; exact Nat.ne_of_lt F14.lt
  have ne19 : a2 ≠ a17 := by rw [g17]; exact Nat.ne_of_lt F15.lt
  have ne20 : a8 ≠ a17 := by rw [g17]; exact Nat.ne_of_lt A8.lt
  have q21 : n0 ≤ a17 := by rw [g17]; exact Z16
  have q22 : h0.size ≤ a17 := by rw [g17]; exact K13.1
  have K23 := K13.ext E17
  have F24 := F14.ext E17
  have F25 := F15.ext E17
  have F26 := A8.ext E17
  have Z27 := Nat.le_trans Z16 E17.1
  refine Go.via st17 ?_
  refine s_dup X17 hx (hb hby d2_14) rfl 15 rfl ?_
  refine s_iconst X17 hx (hb hby d2_15) (0 : Int32) rfl 16 rfl ?_
  refine s_aloadN X17 hx (hb hby d2_16) rfl rfl 17 rfl ?_
  refine s_iconst X17 hx (hb hby d2_17) (0 : Int32) rfl 18 rfl ?_
  refine s_daload X17 hx hZ e17 F25 (hb hby d2_18) (j := (0 : Int32)) 0 (by decide) (.double x0) rfl 19 rfl ?_
  obtain ⟨T28, h28, X28, e28, W28, A28, st28⟩ := s_dastore X17 hx hZ e17 A17 (hb hby d2_19) #[.val (.ref a1), .val (.ref a2)] [.ref a17, .int (0 : Int32), .ref a8, .ref a8] (j := (0 : Int32)) 0 (by decide) (by show 0 < 3; decide) x0 [.double x0, .double (0 : UInt64), .double (0 : UInt64)] rfl 20 rfl
  have N28 := Fr.snoc X28 N0 q21
  have F29 := F24.other W28 (Or.inl ne18)
  have F30 := F25.other W28 ne19
  have F31 := F26.other W28 ne20
  have F32 := B17.wr W28
  have Z33 : n0 ≤ h28.size := by rw [W28.size]; exact Z27
  have K34 := K23.wr W28 (Or.inr q22)
  refine Go.via st28 ?_
  refine s_dup X28 hx (hb hby d2_20) rfl 21 rfl ?_
  refine s_iconst X28 hx (hb hby d2_21) (1 : Int32) rfl 22 rfl ?_
  refine s_aloadN X28 hx (hb hby d2_22) rfl rfl 23 rfl ?_
  refine s_iconst X28 hx (hb hby d2_23) (1 : Int32) rfl 24 rfl ?_
  refine s_daload X28 hx hZ e28 F30 (hb hby d2_24) (j := (1 : Int32)) 1 (by decide) (.double x1) rfl 25 rfl ?_
  obtain ⟨T35, h35, X35, e35, W35, A35, st35⟩ := s_dastore X28 hx hZ e28 A28 (hb hby d2_25) #[.val (.ref a1), .val (.ref a2)] [.ref a17, .int (0 : Int32), .ref a8, .ref a8] (j := (1 : Int32)) 1 (by decide) (by show 1 < 3; decide) x1 [.double x0, .double x1, .double (0 : UInt64)] rfl 26 rfl
  have N35 := Fr.snoc X35 N28 q21
  have F36 := F29.other W35 (Or.inl ne18)
  have F37 := F30.other W35 ne19
  have F38 := F31.other W35 ne20
  have F39 := F32.wr W35
  have Z40 : n0 ≤ h35.size := by rw [W35.size]; exact Z33
  have K41 := K34.wr W35 (Or.inr q22)
  refine Go.via st35 ?_
  refine s_dup X35 hx (hb hby d2_26) rfl 27 rfl ?_
  refine s_iconst X35 hx (hb hby d2_27) (2 : Int32) rfl 28 rfl ?_
  refine s_aloadN X35 hx (hb hby d2_28) rfl rfl 29 rfl ?_
  refine s_iconst X35 hx (hb hby d2_29) (2 : Int32) rfl 30 rfl ?_
  refine s_daload X35 hx hZ e35 F37 (hb hby d2_30) (j := (2 : Int32)) 2 (by decide) (.double x2) rfl 31 rfl ?_
  obtain ⟨T42, h42, X42, e42, W42, A42, st42⟩ := s_dastore X35 hx hZ e35 A35 (hb hby d2_31) #[.val (.ref a1), .val (.ref a2)] [.ref a17, .int (0 : Int32), .ref a8, .ref a8] (j := (2 : Int32)) 2 (by decide) (by show 2 < 3; decide) x2 [.double x0, .double x1, .double x2] rfl 32 rfl
  have N42 := Fr.snoc X42 N35 q21
  have F43 := F36.other W42 (Or.inl ne18)
  have F44 := F37.other W42 ne19
  have F45 := F38.other W42 ne20
  have F46 := F39.wr W42
  have Z47 : n0 ≤ h42.size := by rw [W42.size]; exact Z40
  have K48 := K41.wr W42 (Or.inr q22)
  refine Go.via st42 ?_
  obtain ⟨T49, h49, X49, e49, W49, A49, st49⟩ := s_aastore X42 hx hZ e42 F45 rfl (hb hby d2_32) #[.val (.ref a1), .val (.ref a2)] [.ref a8] (j := (0 : Int32)) 0 (by decide) (by show 0 < 3; decide) (.ref a17) (sto_of F45 O8 (Ins.self F46)) [.ref a17, .null, .null] rfl 33 rfl
  have N49 := Fr.snoc X49 N42 q11
  have F50 := F43.other W49 (Or.inl ne9)
  have F51 := F44.other W49 ne10
  have F52 := A42.other W49 ((ne20).symm)
  have F53 := F46.wr W49
  have Z54 : n0 ≤ h49.size := by rw [W49.size]; exact Z47
  have K55 := K48.wr W49 (Or.inr q12)
  refine Go.via st49 ?_
  refine s_dup X49 hx (hb hby d2_33) rfl 34 rfl ?_
  refine s_iconst X49 hx (hb hby d2_34) (1 : Int32) rfl 35 rfl ?_
  refine s_iconst X49 hx (hb hby d2_35) (3 : Int32) rfl 36 rfl ?_
  obtain ⟨T56, h56, c56, X56, e56, E56, A56, B56, st56⟩ := s_newarrayE X49 hx hZ (aty := .double) (wd hw 0 _ rfl) e49 (hb hby d2_36) #[.val (.ref a1), .val (.ref a2)] [.int (1 : Int32), .ref a8, .ref a8] (n := (3 : Int32)) 3 (by decide) [.double (0 : UInt64), .double (0 : UInt64), .double (0 : UInt64)] rfl (by decide) (by decide) (by decide) 38 rfl "[D" (by decide)
  obtain ⟨a56, g56⟩ : ∃ z, z = h49.size := ⟨_, rfl⟩
  rw [← g56] at A56 B56 st56
  have ne57 : a1 ≠ a56 := by rw [g56]; exact Nat.ne_of_lt F50.lt
  have ne58 : a2 ≠ a56 := by rw [g56]; exact Nat.ne_of_lt F51.lt
  have ne59 : a8 ≠ a56 := by rw [g56]; exact Nat.ne_of_lt A49.lt
  have ne60 : a17 ≠ a56 := by rw [g56]; exact Nat.ne_of_lt F52.lt
  have q61 : n0 ≤ a56 := by rw [g56]; exact Z54
  have q62 : h0.size ≤ a56 := by rw [g56]; exact K55.1
  have K63 := K55.ext E56
  have F64 := F50.ext E56
  have F65 := F51.ext E56
  have F66 := A49.ext E56
  have F67 := F52.ext E56
  have F68 := F53.ext E56
  have Z69 := Nat.le_trans Z54 E56.1
  refine Go.via st56 ?_
  refine s_dup X56 hx (hb hby d2_38) rfl 39 rfl ?_
  refine s_iconst X56 hx (hb hby d2_39) (0 : Int32) rfl 40 rfl ?_
  refine s_aloadN X56 hx (hb hby d2_40) rfl rfl 41 rfl ?_
  refine s_iconst X56 hx (hb hby d2_41) (3 : Int32) rfl 42 rfl ?_
  refine s_daload X56 hx hZ e56 F65 (hb hby d2_42) (j := (3 : Int32)) 3 (by decide) (.double x3) rfl 43 rfl ?_
  obtain ⟨T70, h70, X70, e70, W70, A70, st70⟩ := s_dastore X56 hx hZ e56 A56 (hb hby d2_43) #[.val (.ref a1), .val (.ref a2)] [.ref a56, .int (1 : Int32), .ref a8, .ref a8] (j := (0 : Int32)) 0 (by decide) (by show 0 < 3; decide) x3 [.double x3, .double (0 : UInt64), .double (0 : UInt64)] rfl 44 rfl
  have N70 := Fr.snoc X70 N49 q61
  have F71 := F64.other W70 (Or.inl ne57)
  have F72 := F65.other W70 ne58
  have F73 := F66.other W70 ne59
  have F74 := F67.other W70 ne60
  have F75 := F68.wr W70
  have F76 := B56.wr W70
  have Z77 : n0 ≤ h70.size := by rw [W70.size]; exact Z69
  have K78 := K63.wr W70 (Or.inr q62)
  refine Go.via st70 ?_
  refine s_dup X70 hx (hb hby d2_44) rfl 45 rfl ?_
  refine s_iconst X70 hx (hb hby d2_45) (1 : Int32) rfl 46 rfl ?_
  refine s_aloadN X70 hx (hb hby d2_46) rfl rfl 47 rfl ?_
  refine s_iconst X70 hx (hb hby d2_47) (4 : Int32) rfl 48 rfl ?_
  refine s_daload X70 hx hZ e70 F72 (hb hby d2_48) (j := (4 : Int32)) 4 (by decide) (.double x4) rfl 49 rfl ?_
  obtain ⟨T79, h79, X79, e79, W79, A79, st79⟩ := s_dastore X70 hx hZ e70 A70 (hb hby d2_49) #[.val (.ref a1), .val (.ref a2)] [.ref a56, .int (1 : Int32), .ref a8, .ref a8] (j := (1 : Int32)) 1 (by decide) (by show 1 < 3; decide) x4 [.double x3, .double x4, .double (0 : UInt64)] rfl 50 rfl
  have N79 := Fr.snoc X79 N70 q61
  have F80 := F71.other W79 (Or.inl ne57)
  have F81 := F72.other W79 ne58
  have F82 := F73.other W79 ne59
  have F83 := F74.other W79 ne60
  have F84 := F75.wr W79
  have F85 := F76.wr W79
  have Z86 : n0 ≤ h79.size := by rw [W79.size]; exact Z77
  have K87 := K78.wr W79 (Or.inr q62)
  refine Go.via st79 ?_
  refine s_dup X79 hx (hb hby d2_50) rfl 51 rfl ?_
  refine s_iconst X79 hx (hb hby d2_51) (2 : Int32) rfl 52 rfl ?_
  refine s_aloadN X79 hx (hb hby d2_52) rfl rfl 53 rfl ?_
  refine s_iconst X79 hx (hb hby d2_53) (5 : Int32) rfl 54 rfl ?_
  refine s_daload X79 hx hZ e79 F81 (hb hby d2_54) (j := (5 : Int32)) 5 (by decide) (.double x5) rfl 55 rfl ?_
  obtain ⟨T88, h88, X88, e88, W88, A88, st88⟩ := s_dastore X79 hx hZ e79 A79 (hb hby d2_55) #[.val (.ref a1), .val (.ref a2)] [.ref a56, .int (1 : Int32), .ref a8, .ref a8] (j := (2 : Int32)) 2 (by decide) (by show 2 < 3; decide) x5 [.double x3, .double x4, .double x5] rfl 56 rfl
  have N88 := Fr.snoc X88 N79 q61
  have F89 := F80.other W88 (Or.inl ne57)
  have F90 := F81.other W88 ne58
  have F91 := F82.other W88 ne59
  have F92 := F83.other W88 ne60
  have F93 := F84.wr W88
  have F94 := F85.wr W88
  have Z95 : n0 ≤ h88.size := by rw [W88.size]; exact Z86
  have K96 := K87.wr W88 (Or.inr q62)
  refine Go.via st88 ?_
  obtain ⟨T97, h97, X97, e97, W97, A97, st97⟩ := s_aastore X88 hx hZ e88 F91 rfl (hb hby d2_56) #[.val (.ref a1), .val (.ref a2)] [.ref a8] (j := (1 : Int32)) 1 (by decide) (by show 1 < 3; decide) (.ref a56) (sto_of F91 O8 (Ins.self F94)) [.ref a17, .ref a56, .null] rfl 57 rfl
  have N97 := Fr.snoc X97 N88 q11
  have F98 := F89.other W97 (Or.inl ne9)
  have F99 := F90.other W97 ne10
  have F100 := F92.other W97 ((ne20).symm)
  have F101 := F93.wr W97
  have F102 := A88.other W97 ((ne59).symm)
  have F103 := F94.wr W97
  have Z104 : n0 ≤ h97.size := by rw [W97.size]; exact Z95
  have K105 := K96.wr W97 (Or.inr q12)
  refine Go.via st97 ?_
  refine s_dup X97 hx (hb hby d2_57) rfl 58 rfl ?_
  refine s_iconst X97 hx (hb hby d2_58) (2 : Int32) rfl 59 rfl ?_
  refine s_iconst X97 hx (hb hby d2_59) (3 : Int32) rfl 60 rfl ?_
  obtain ⟨T106, h106, c106, X106, e106, E106, A106, B106, st106⟩ := s_newarrayE X97 hx hZ (aty := .double) (wd hw 0 _ rfl) e97 (hb hby d2_60) #[.val (.ref a1), .val (.ref a2)] [.int (2 : Int32), .ref a8, .ref a8] (n := (3 : Int32)) 3 (by decide) [.double (0 : UInt64), .double (0 : UInt64), .double (0 : UInt64)] rfl (by decide) (by decide) (by decide) 62 rfl "[D" (by decide)
  obtain ⟨a106, g106⟩ : ∃ z, z = h97.size := ⟨_, rfl⟩
  rw [← g106] at A106 B106 st106
  have ne107 : a1 ≠ a106 := by rw [g106]; exact Nat.ne_of_lt F98.lt
  have ne108 : a2 ≠ a106 := by rw [g106]; exact Nat.ne_of_lt F99.lt
  have ne109 : a8 ≠ a106 := by rw [g106]; exact Nat.ne_of_lt A97.lt
  have ne110 : a17 ≠ a106 := by rw [g106]; exact Nat.ne_of_lt F100.lt
  have ne111 : a56 ≠ a106 := by rw [g106]; exact Nat.ne_of_lt F102.lt
  have q112 : n0 ≤ a106 := by rw [g106]; exact Z104
  have q113 : h0.size ≤ a106 := by rw [g106]; exact K105.1
  have K114 := K105.ext E106
  have F115 := F98.ext E106
  have F116 := F99.ext E106
  have F117 := A97.ext E106
  have F118 := F100.ext E106
  have F119 := F101.ext E106
  have F120 := F102.ext E106
  have F121 := F103.ext E106
  have Z122 := Nat.le_trans Z104 E106.1
  refine Go.via st106 ?_
  refine s_dup X106 hx (hb hby d2_62) rfl 63 rfl ?_
  refine s_iconst X106 hx (hb hby d2_63) (0 : Int32) rfl 64 rfl ?_
  refine s_aloadN X106 hx (hb hby d2_64) rfl rfl 65 rfl ?_
  refine s_bipush X106 hx (hb hby d2_65) (6 : Int32) rfl 67 rfl ?_
  refine s_daload X106 hx hZ e106 F116 (hb hby d2_67) (j := (6 : Int32)) 6 (by decide) (.double x6) rfl 68 rfl ?_
  obtain ⟨T123, h123, X123, e123, W123, A123, st123⟩ := s_dastore X106 hx hZ e106 A106 (hb hby d2_68) #[.val (.ref a1), .val (.ref a2)] [.ref a106, .int (2 : Int32), .ref a8, .ref a8] (j := (0 : Int32)) 0 (by decide) (by show 0 < 3; decide) x6 [.double x6, .double (0 : UInt64), .double (0 : UInt64)] rfl 69 rfl
  have N123 := Fr.snoc X123 N97 q112
  have F124 := F115.other W123 (Or.inl ne107)
  have F125 := F116.other W123 ne108
  have F126 := F117.other W123 ne109
  have F127 := F118.other W123 ne110
  have F128 := F119.wr W123
  have F129 := F120.other W123 ne111
  have F130 := F121.wr W123
  have F131 := B106.wr W123
  have Z132 : n0 ≤ h123.size := by rw [W123.size]; exact Z122
  have K133 := K114.wr W123 (Or.inr q113)
  refine Go.via st123 ?_
  refine s_dup X123 hx (hb hby d2_69) rfl 70 rfl ?_
  refine s_iconst X123 hx (hb hby d2_70) (1 : Int32) rfl 71 rfl ?_
  refine s_aloadN X123 hx (hb hby d2_71) rfl rfl 72 rfl ?_
  refine s_bipush X123 hx (hb hby d2_72) (7 : Int32) rfl 74 rfl ?_
  refine s_daload X123 hx hZ e123 F125 (hb hby d2_74) (j := (7 : Int32)) 7 (by decide) (.double x7) rfl 75 rfl ?_
  obtain ⟨T134, h134, X134, e134, W134, A134, st134⟩ := s_dastore X123 hx hZ e123 A123 (hb hby d2_75) #[.val (.ref a1), .val (.ref a2)] [.ref a106, .int (2 : Int32), .ref a8, .ref a8] (j := (1 : Int32)) 1 (by decide) (by show 1 < 3; decide) x7 [.double x6, .double x7, .double (0 : UInt64)] rfl 76 rfl
  have N134 := Fr.snoc X134 N123 q112
  have F135 := F124.other W134 (Or.inl ne107)
  have F136 := F125.other W134 ne108
  have F137 := F126.other W134 ne109
  have F138 := F127.other W134 ne110
  have F139 := F128.wr W134
  have F140 := F129.other W134 ne111
  have F141 := F130.wr W134
  have F142 := F131.wr W134
  have Z143 : n0 ≤ h134.size := by rw [W134.size]; exact Z132
  have K144 := K133.wr W134 (Or.inr q113)
  refine Go.via st134 ?_
  refine s_dup X134 hx (hb hby d2_76) rfl 77 rfl ?_
  refine s_iconst X134 hx (hb hby d2_77) (2 : Int32) rfl 78 rfl ?_
  refine s_aloadN X134 hx (hb hby d2_78) rfl rfl 79 rfl ?_
  refine s_bipush X134 hx (hb hby d2_79) (8 : Int32) rfl 81 rfl ?_
  refine s_daload X134 hx hZ e134 F136 (hb hby d2_81) (j := (8 : Int32)) 8 (by decide) (.double x8) rfl 82 rfl ?_
  obtain ⟨T145, h145, X145, e145, W145, A145, st145⟩ := s_dastore X134 hx hZ e134 A134 (hb hby d2_82) #[.val (.ref a1), .val (.ref a2)] [.ref a106, .int (2 : Int32), .ref a8, .ref a8] (j := (2 : Int32)) 2 (by decide) (by show 2 < 3; decide) x8 [.double x6, .double x7, .double x8] rfl 83 rfl
  have N145 := Fr.snoc X145 N134 q112
  have F146 := F135.other W145 (Or.inl ne107)
  have F147 := F136.other W145 ne108
  have F148 := F137.other W145 ne109
  have F149 := F138.other W145 ne110
  have F150 := F139.wr W145
  have F151 := F140.other W145 ne111
  have F152 := F141.wr W145
  have F153 := F142.wr W145
  have Z154 : n0 ≤ h145.size := by rw [W145.size]; exact Z143
  have K155 := K144.wr W145 (Or.inr q113)
  refine Go.via st145 ?_
  obtain ⟨T156, h156, X156, e156, W156, A156, st156⟩ := s_aastore X145 hx hZ e145 F148 rfl (hb hby d2_83) #[.val (.ref a1), .val (.ref a2)] [.ref a8] (j := (2 : Int32)) 2 (by decide) (by show 2 < 3; decide) (.ref a106) (sto_of F148 O8 (Ins.self F153)) [.ref a17, .ref a56, .ref a106] rfl 84 rfl
  have N156 := Fr.snoc X156 N145 q11
  have F157 := F146.other W156 (Or.inl ne9)
  have F158 := F147.other W156 ne10
  have F159 := F149.other W156 ((ne20).symm)
  have F160 := F150.wr W156
  have F161 := F151.other W156 ((ne59).symm)
  have F162 := F152.wr W156
  have F163 := A145.other W156 ((ne109).symm)
  have F164 := F153.wr W156
  have Z165 : n0 ≤ h156.size := by rw [W156.size]; exact Z154
  have K166 := K155.wr W156 (Or.inr q12)
  refine Go.via st156 ?_
  exact retA X156 hx hlk hret (by decide) rfl (hb hby d2_84) e156 ⟨a8, a17, a56, a106, c8, _, _, _, rfl, N156, K166, q12, q22, q62, q113, ne20, ne59, ne109, ne60, ne110, ne111, A156, F159, F161, F163⟩ (by decide) (by decide)
theorem d3_0 : decode method_2_code 0 = .ok (.aload_n 0, 1) := by decide +kernel
theorem d3_1 : decode method_2_code 1 = .ok (.arraylength, 1) := by decide +kernel
theorem d3_2 : decode method_2_code 2 = .ok (.iconst 3, 1) := by decide +kernel
theorem d3_3 : decode method_2_code 3 = .ok (.if_icmp .ne 31, 3) := by decide +kernel
theorem d3_6 : decode method_2_code 6 = .ok (.aload_n 0, 1) := by decide +kernel
theorem d3_7 : decode method_2_code 7 = .ok (.iconst 0, 1) := by decide +kernel
theorem d3_8 : decode method_2_code 8 = .ok (.aaload, 1) := by decide +kernel
theorem d3_9 : decode method_2_code 9 = .ok (.arraylength, 1) := by decide +kernel
theorem d3_10 : decode method_2_code 10 = .ok (.iconst 3, 1) := by decide +kernel
theorem d3_11 : decode method_2_code 11 = .ok (.if_icmp .ne 23, 3) := by decide +kernel
theorem d3_14 : decode method_2_code 14 = .ok (.aload_n 0, 1) := by decide +kernel
theorem d3_15 : decode method_2_code 15 = .ok (.iconst 1, 1) := by decide +kernel
theorem d3_16 : decode method_2_code 16 = .ok (.aaload, 1) := by decide +kernel
theorem d3_17 : decode method_2_code 17 = .ok (.arraylength, 1) := by decide +kernel
theorem d3_18 : decode method_2_code 18 = .ok (.iconst 3, 1) := by decide +kernel
theorem d3_19 : decode method_2_code 19 = .ok (.if_icmp .ne 15, 3) := by decide +kernel
theorem d3_22 : decode method_2_code 22 = .ok (.aload_n 0, 1) := by decide +kernel
theorem d3_23 : decode method_2_code 23 = .ok (.iconst 2, 1) := by decide +kernel
theorem d3_24 : decode method_2_code 24 = .ok (.aaload, 1) := by decide +kernel
theorem d3_25 : decode method_2_code 25 = .ok (.arraylength, 1) := by decide +kernel
theorem d3_26 : decode method_2_code 26 = .ok (.iconst 3, 1) := by decide +kernel
theorem d3_27 : decode method_2_code 27 = .ok (.if_icmp .ne 7, 3) := by decide +kernel
theorem d3_30 : decode method_2_code 30 = .ok (.iconst 1, 1) := by decide +kernel
theorem d3_31 : decode method_2_code 31 = .ok (.goto 4, 3) := by decide +kernel
theorem d3_34 : decode method_2_code 34 = .ok (.iconst 0, 1) := by decide +kernel
theorem d3_35 : decode method_2_code 35 = .ok (.ireturn, 1) := by decide +kernel
theorem pd_3 : parseMethodDescriptor "([[D)Z" = some ⟨[.array (.array .double)], some .boolean⟩ := by decide +kernel
theorem pn_3 : plainFor (⟨"com/example/twelvefold/twelvefold/FrameTransformMatrixToArrayPinLaw", "shaped", "([[D)Z"⟩ : MethodName) = true := plainFor_of_name (by show plainName "com/example/twelvefold/twelvefold/FrameTransformMatrixToArrayPinLaw" = true; first | (simp [plainName, overriddenIn]; done) | decide +kernel)
set_option maxRecDepth 65536 in
set_option maxHeartbeats 40000000 in
theorem rm_shaped (l : Launch) (Z : State) (a0 : Array Value) (hw : ∀ d ∈ tables_1, d.before a0 Z = true) (ws : List Jvm.Cond) (a1 b0 b1 b2 : Addr) (k1 c0 c1 c2 : ClassId) (x0 x1 x2 x3 x4 x5 x6 x7 x8 : UInt64) (h0 : Heap) (n0 : Nat) (Z0 : n0 ≤ h0.size) (A1 : AR Z h0 a1 k1 (.array .double) [.ref b0, .ref b1, .ref b2]) (B0 : AR Z h0 b0 c0 .double [.double x0, .double x1, .double x2]) (B1 : AR Z h0 b1 c1 .double [.double x3, .double x4, .double x5]) (B2 : AR Z h0 b2 c2 .double [.double x6, .double x7, .double x8])  :
    Ct l Z (⟨"com/example/twelvefold/twelvefold/FrameTransformMatrixToArrayPinLaw", "shaped", "([[D)Z"⟩ : MethodName) method_2_code 1 (some .boolean) ws ({ frames := 0, cells := 0, slots := 0, locals := 0 } : Room) #[.ref a1] h0 (fun v h L => v = some (.int 1) ∧ Fr n0 L ∧ h = h0) := by
  refine Ct.intro pn_3 #[.val (.ref a1)] (fun _ => by first | (simp [entryFrame, mkF, argsToLocals, Value.category, maxLocals]; done) | rfl) ?_
  intro p e s m below meth c T0 X0 hx hZ hby hml hown hnm hret hlk e0
  have N0 := Fr.nil n0
  refine s_aloadN X0 hx (hb hby d3_0) rfl rfl 1 rfl ?_
  refine s_len X0 hx hZ e0 A1 (hb hby d3_1) (3 : Int32) rfl 2 rfl ?_
  refine s_iconst X0 hx (hb hby d3_2) (3 : Int32) rfl 3 rfl ?_
  refine s_icmpN X0 hx (hb hby d3_3) (by decide) 6 rfl ?_
  refine s_aloadN X0 hx (hb hby d3_6) rfl rfl 7 rfl ?_
  refine s_iconst X0 hx (hb hby d3_7) (0 : Int32) rfl 8 rfl ?_
  refine s_aaload X0 hx hZ e0 A1 rfl (hb hby d3_8) (j := (0 : Int32)) 0 (by decide) (.ref b0) rfl 9 rfl ?_
  refine s_len X0 hx hZ e0 B0 (hb hby d3_9) (3 : Int32) rfl 10 rfl ?_
  refine s_iconst X0 hx (hb hby d3_10) (3 : Int32) rfl 11 rfl ?_
  refine s_icmpN X0 hx (hb hby d3_11) (by decide) 14 rfl ?_
  refine s_aloadN X0 hx (hb hby d3_14) rfl rfl 15 rfl ?_
  refine s_iconst X0 hx (hb hby d3_15) (1 : Int32) rfl 16 rfl ?_
  refine s_aaload X0 hx hZ e0 A1 rfl (hb hby d3_16) (j := (1 : Int32)) 1 (by decide) (.ref b1) rfl 17 rfl ?_
  refine s_len X0 hx hZ e0 B1 (hb hby d3_17) (3 : Int32) rfl 18 rfl ?_
  refine s_iconst X0 hx (hb hby d3_18) (3 : Int32) rfl 19 rfl ?_
  refine s_icmpN X0 hx (hb hby d3_19) (by decide) 22 rfl ?_
  refine s_aloadN X0 hx (hb hby d3_22) rfl rfl 23 rfl ?_
  refine s_iconst X0 hx (hb hby d3_23) (2 : Int32) rfl 24 rfl ?_
  refine s_aaload X0 hx hZ e0 A1 rfl (hb hby d3_24) (j := (2 : Int32)) 2 (by decide) (.ref b2) rfl 25 rfl ?_
  refine s_len X0 hx hZ e0 B2 (hb hby d3_25) (3 : Int32) rfl 26 rfl ?_
  refine s_iconst X0 hx (hb hby d3_26) (3 : Int32) rfl 27 rfl ?_
  refine s_icmpN X0 hx (hb hby d3_27) (by decide) 30 rfl ?_
  refine s_iconst X0 hx (hb hby d3_30) (1 : Int32) rfl 31 rfl ?_
  refine s_goto X0 hx (hb hby d3_31) 35 (by decide) (by decide) ?_
  exact retZ X0 hx hlk hret (hb hby d3_35) (by decide) e0 ⟨rfl, N0, rfl⟩ (by decide) (by decide)
theorem d4_0 : decode method_3_code 0 = .ok (.aload_n 0, 1) := by decide +kernel
theorem d4_1 : decode method_3_code 1 = .ok (.iconst 0, 1) := by decide +kernel
theorem d4_2 : decode method_3_code 2 = .ok (.aaload, 1) := by decide +kernel
theorem d4_3 : decode method_3_code 3 = .ok (.iconst 0, 1) := by decide +kernel
theorem d4_4 : decode method_3_code 4 = .ok (.daload, 1) := by decide +kernel
theorem d4_5 : decode method_3_code 5 = .ok (.aload_n 1, 1) := by decide +kernel
theorem d4_6 : decode method_3_code 6 = .ok (.iconst 0, 1) := by decide +kernel
theorem d4_7 : decode method_3_code 7 = .ok (.daload, 1) := by decide +kernel
theorem d4_8 : decode method_3_code 8 = .ok (.dcmp .l, 1) := by decide +kernel
theorem d4_9 : decode method_3_code 9 = .ok (.ifCond .ne 106, 3) := by decide +kernel
theorem d4_12 : decode method_3_code 12 = .ok (.aload_n 0, 1) := by decide +kernel
theorem d4_13 : decode method_3_code 13 = .ok (.iconst 0, 1) := by decide +kernel
theorem d4_14 : decode method_3_code 14 = .ok (.aaload, 1) := by decide +kernel
theorem d4_15 : decode method_3_code 15 = .ok (.iconst 1, 1) := by decide +kernel
theorem d4_16 : decode method_3_code 16 = .ok (.daload, 1) := by decide +kernel
theorem d4_17 : decode method_3_code 17 = .ok (.aload_n 1, 1) := by decide +kernel
theorem d4_18 : decode method_3_code 18 = .ok (.iconst 1, 1) := by decide +kernel
theorem d4_19 : decode method_3_code 19 = .ok (.daload, 1) := by decide +kernel
theorem d4_20 : decode method_3_code 20 = .ok (.dcmp .l, 1) := by decide +kernel
theorem d4_21 : decode method_3_code 21 = .ok (.ifCond .ne 94, 3) := by decide +kernel
theorem d4_24 : decode method_3_code 24 = .ok (.aload_n 0, 1) := by decide +kernel
theorem d4_25 : decode method_3_code 25 = .ok (.iconst 0, 1) := by decide +kernel
theorem d4_26 : decode method_3_code 26 = .ok (.aaload, 1) := by decide +kernel
theorem d4_27 : decode method_3_code 27 = .ok (.iconst 2, 1) := by decide +kernel
theorem d4_28 : decode method_3_code 28 = .ok (.daload, 1) := by decide +kernel
theorem d4_29 : decode method_3_code 29 = .ok (.aload_n 1, 1) := by decide +kernel
theorem d4_30 : decode method_3_code 30 = .ok (.iconst 2, 1) := by decide +kernel
theorem d4_31 : decode method_3_code 31 = .ok (.daload, 1) := by decide +kernel
theorem d4_32 : decode method_3_code 32 = .ok (.dcmp .l, 1) := by decide +kernel
theorem d4_33 : decode method_3_code 33 = .ok (.ifCond .ne 82, 3) := by decide +kernel
theorem d4_36 : decode method_3_code 36 = .ok (.aload_n 0, 1) := by decide +kernel
theorem d4_37 : decode method_3_code 37 = .ok (.iconst 1, 1) := by decide +kernel
theorem d4_38 : decode method_3_code 38 = .ok (.aaload, 1) := by decide +kernel
theorem d4_39 : decode method_3_code 39 = .ok (.iconst 0, 1) := by decide +kernel
theorem d4_40 : decode method_3_code 40 = .ok (.daload, 1) := by decide +kernel
theorem d4_41 : decode method_3_code 41 = .ok (.aload_n 1, 1) := by decide +kernel
theorem d4_42 : decode method_3_code 42 = .ok (.iconst 3, 1) := by decide +kernel
theorem d4_43 : decode method_3_code 43 = .ok (.daload, 1) := by decide +kernel
theorem d4_44 : decode method_3_code 44 = .ok (.dcmp .l, 1) := by decide +kernel
theorem d4_45 : decode method_3_code 45 = .ok (.ifCond .ne 70, 3) := by decide +kernel
theorem d4_48 : decode method_3_code 48 = .ok (.aload_n 0, 1) := by decide +kernel
theorem d4_49 : decode method_3_code 49 = .ok (.iconst 1, 1) := by decide +kernel
theorem d4_50 : decode method_3_code 50 = .ok (.aaload, 1) := by decide +kernel
theorem d4_51 : decode method_3_code 51 = .ok (.iconst 1, 1) := by decide +kernel
theorem d4_52 : decode method_3_code 52 = .ok (.daload, 1) := by decide +kernel
theorem d4_53 : decode method_3_code 53 = .ok (.aload_n 1, 1) := by decide +kernel
theorem d4_54 : decode method_3_code 54 = .ok (.iconst 4, 1) := by decide +kernel
theorem d4_55 : decode method_3_code 55 = .ok (.daload, 1) := by decide +kernel
theorem d4_56 : decode method_3_code 56 = .ok (.dcmp .l, 1) := by decide +kernel
theorem d4_57 : decode method_3_code 57 = .ok (.ifCond .ne 58, 3) := by decide +kernel
theorem d4_60 : decode method_3_code 60 = .ok (.aload_n 0, 1) := by decide +kernel
theorem d4_61 : decode method_3_code 61 = .ok (.iconst 1, 1) := by decide +kernel
theorem d4_62 : decode method_3_code 62 = .ok (.aaload, 1) := by decide +kernel
theorem d4_63 : decode method_3_code 63 = .ok (.iconst 2, 1) := by decide +kernel
theorem d4_64 : decode method_3_code 64 = .ok (.daload, 1) := by decide +kernel
theorem d4_65 : decode method_3_code 65 = .ok (.aload_n 1, 1) := by decide +kernel
theorem d4_66 : decode method_3_code 66 = .ok (.iconst 5, 1) := by decide +kernel
theorem d4_67 : decode method_3_code 67 = .ok (.daload, 1) := by decide +kernel
theorem d4_68 : decode method_3_code 68 = .ok (.dcmp .l, 1) := by decide +kernel
theorem d4_69 : decode method_3_code 69 = .ok (.ifCond .ne 46, 3) := by decide +kernel
theorem d4_72 : decode method_3_code 72 = .ok (.aload_n 0, 1) := by decide +kernel
theorem d4_73 : decode method_3_code 73 = .ok (.iconst 2, 1) := by decide +kernel
theorem d4_74 : decode method_3_code 74 = .ok (.aaload, 1) := by decide +kernel
theorem d4_75 : decode method_3_code 75 = .ok (.iconst 0, 1) := by decide +kernel
theorem d4_76 : decode method_3_code 76 = .ok (.daload, 1) := by decide +kernel
theorem d4_77 : decode method_3_code 77 = .ok (.aload_n 1, 1) := by decide +kernel
theorem d4_78 : decode method_3_code 78 = .ok (.bipush 6, 2) := by decide +kernel
theorem d4_80 : decode method_3_code 80 = .ok (.daload, 1) := by decide +kernel
theorem d4_81 : decode method_3_code 81 = .ok (.dcmp .l, 1) := by decide +kernel
theorem d4_82 : decode method_3_code 82 = .ok (.ifCond .ne 33, 3) := by decide +kernel
theorem d4_85 : decode method_3_code 85 = .ok (.aload_n 0, 1) := by decide +kernel
theorem d4_86 : decode method_3_code 86 = .ok (.iconst 2, 1) := by decide +kernel
theorem d4_87 : decode method_3_code 87 = .ok (.aaload, 1) := by decide +kernel
theorem d4_88 : decode method_3_code 88 = .ok (.iconst 1, 1) := by decide +kernel
theorem d4_89 : decode method_3_code 89 = .ok (.daload, 1) := by decide +kernel
theorem d4_90 : decode method_3_code 90 = .ok (.aload_n 1, 1) := by decide +kernel
theorem d4_91 : decode method_3_code 91 = .ok (.bipush 7, 2) := by decide +kernel
theorem d4_93 : decode method_3_code 93 = .ok (.daload, 1) := by decide +kernel
theorem d4_94 : decode method_3_code 94 = .ok (.dcmp .l, 1) := by decide +kernel
theorem d4_95 : decode method_3_code 95 = .ok (.ifCond .ne 20, 3) := by decide +kernel
theorem d4_98 : decode method_3_code 98 = .ok (.aload_n 0, 1) := by decide +kernel
theorem d4_99 : decode method_3_code 99 = .ok (.iconst 2, 1) := by decide +kernel
theorem d4_100 : decode method_3_code 100 = .ok (.aaload, 1) := by decide +kernel
theorem d4_101 : decode method_3_code 101 = .ok (.iconst 2, 1) := by decide +kernel
theorem d4_102 : decode method_3_code 102 = .ok (.daload, 1) := by decide +kernel
theorem d4_103 : decode method_3_code 103 = .ok (.aload_n 1, 1) := by decide +kernel
theorem d4_104 : decode method_3_code 104 = .ok (.bipush 8, 2) := by decide +kernel
theorem d4_106 : decode method_3_code 106 = .ok (.daload, 1) := by decide +kernel
theorem d4_107 : decode method_3_code 107 = .ok (.dcmp .l, 1) := by decide +kernel
theorem d4_108 : decode method_3_code 108 = .ok (.ifCond .ne 7, 3) := by decide +kernel
theorem d4_111 : decode method_3_code 111 = .ok (.iconst 1, 1) := by decide +kernel
theorem d4_112 : decode method_3_code 112 = .ok (.goto 4, 3) := by decide +kernel
theorem d4_115 : decode method_3_code 115 = .ok (.iconst 0, 1) := by decide +kernel
theorem d4_116 : decode method_3_code 116 = .ok (.ireturn, 1) := by decide +kernel
theorem pd_4 : parseMethodDescriptor "([[D[D)Z" = some ⟨[.array (.array .double), .array .double], some .boolean⟩ := by decide +kernel
theorem pn_4 : plainFor (⟨"com/example/twelvefold/twelvefold/FrameTransformMatrixToArrayPinLaw", "matches", "([[D[D)Z"⟩ : MethodName) = true := plainFor_of_name (by show plainName "com/example/twelvefold/twelvefold/FrameTransformMatrixToArrayPinLaw" = true; first | (simp [plainName, overriddenIn]; done) | decide +kernel)
set_option maxRecDepth 65536 in
set_option maxHeartbeats 40000000 in
theorem rm_matches (l : Launch) (Z : State) (a0 : Array Value) (hw : ∀ d ∈ tables_1, d.before a0 Z = true) (ws : List Jvm.Cond) (a1 b0 b1 b2 : Addr) (k1 c0 c1 c2 : ClassId) (a2 : Addr) (k2 : ClassId) (x0 x1 x2 x3 x4 x5 x6 x7 x8 y0 y1 y2 y3 y4 y5 y6 y7 y8 : UInt64) (h0 : Heap) (n0 : Nat) (Z0 : n0 ≤ h0.size) (A1 : AR Z h0 a1 k1 (.array .double) [.ref b0, .ref b1, .ref b2]) (B0 : AR Z h0 b0 c0 .double [.double x0, .double x1, .double x2]) (B1 : AR Z h0 b1 c1 .double [.double x3, .double x4, .double x5]) (B2 : AR Z h0 b2 c2 .double [.double x6, .double x7, .double x8]) (A2 : AR Z h0 a2 k2 .double [.double y0, .double y1, .double y2, .double y3, .double y4, .double y5, .double y6, .double y7, .double y8]) (hq0 : FP.dcmp x0 y0 = some .eq) (hq1 : FP.dcmp x1 y1 = some .eq) (hq2 : FP.dcmp x2 y2 = some .eq) (hq3 : FP.dcmp x3 y3 = some .eq) (hq4 : FP.dcmp x4 y4 = some .eq) (hq5 : FP.dcmp x5 y5 = some .eq) (hq6 : FP.dcmp x6 y6 = some .eq) (hq7 : FP.dcmp x7 y7 = some .eq) (hq8 : FP.dcmp x8 y8 = some .eq) :
    Ct l Z (⟨"com/example/twelvefold/twelvefold/FrameTransformMatrixToArrayPinLaw", "matches", "([[D[D)Z"⟩ : MethodName) method_3_code 2 (some .boolean) ws ({ frames := 0, cells := 0, slots := 0, locals := 0 } : Room) #[.ref a1, .ref a2] h0 (fun v h L => v = some (.int 1) ∧ Fr n0 L ∧ h = h0) := by
  refine Ct.intro pn_4 #[.val (.ref a1), .val (.ref a2)] (fun _ => by first | (simp [entryFrame, mkF, argsToLocals, Value.category, maxLocals]; done) | rfl) ?_
  intro p e s m below meth c T0 X0 hx hZ hby hml hown hnm hret hlk e0
  have N0 := Fr.nil n0
  refine s_aloadN X0 hx (hb hby d4_0) rfl rfl 1 rfl ?_
  refine s_iconst X0 hx (hb hby d4_1) (0 : Int32) rfl 2 rfl ?_
  refine s_aaload X0 hx hZ e0 A1 rfl (hb hby d4_2) (j := (0 : Int32)) 0 (by decide) (.ref b0) rfl 3 rfl ?_
  refine s_iconst X0 hx (hb hby d4_3) (0 : Int32) rfl 4 rfl ?_
  refine s_daload X0 hx hZ e0 B0 (hb hby d4_4) (j := (0 : Int32)) 0 (by decide) (.double x0) rfl 5 rfl ?_
  refine s_aloadN X0 hx (hb hby d4_5) rfl rfl 6 rfl ?_
  refine s_iconst X0 hx (hb hby d4_6) (0 : Int32) rfl 7 rfl ?_
  refine s_daload X0 hx hZ e0 A2 (hb hby d4_7) (j := (0 : Int32)) 0 (by decide) (.double y0) rfl 8 rfl ?_
  refine s_dcmp X0 hx (hb hby d4_8) (0 : Int32) (by rw [show FP.dcmp x0 y0 = some .eq from hq0]; rfl) 9 rfl ?_
  refine s_ifN X0 hx (hb hby d4_9) (by decide) 12 rfl ?_
  refine s_aloadN X0 hx (hb hby d4_12) rfl rfl 13 rfl ?_
  refine s_iconst X0 hx (hb hby d4_13) (0 : Int32) rfl 14 rfl ?_
  refine s_aaload X0 hx hZ e0 A1 rfl (hb hby d4_14) (j := (0 : Int32)) 0 (by decide) (.ref b0) rfl 15 rfl ?_
  refine s_iconst X0 hx (hb hby d4_15) (1 : Int32) rfl 16 rfl ?_
  refine s_daload X0 hx hZ e0 B0 (hb hby d4_16) (j := (1 : Int32)) 1 (by decide) (.double x1) rfl 17 rfl ?_
  refine s_aloadN X0 hx (hb hby d4_17) rfl rfl 18 rfl ?_
  refine s_iconst X0 hx (hb hby d4_18) (1 : Int32) rfl 19 rfl ?_
  refine s_daload X0 hx hZ e0 A2 (hb hby d4_19) (j := (1 : Int32)) 1 (by decide) (.double y1) rfl 20 rfl ?_
  refine s_dcmp X0 hx (hb hby d4_20) (0 : Int32) (by rw [show FP.dcmp x1 y1 = some .eq from hq1]; rfl) 21 rfl ?_
  refine s_ifN X0 hx (hb hby d4_21) (by decide) 24 rfl ?_
  refine s_aloadN X0 hx (hb hby d4_24) rfl rfl 25 rfl ?_
  refine s_iconst X0 hx (hb hby d4_25) (0 : Int32) rfl 26 rfl ?_
  refine s_aaload X0 hx hZ e0 A1 rfl (hb hby d4_26) (j := (0 : Int32)) 0 (by decide) (.ref b0) rfl 27 rfl ?_
  refine s_iconst X0 hx (hb hby d4_27) (2 : Int32) rfl 28 rfl ?_
  refine s_daload X0 hx hZ e0 B0 (hb hby d4_28) (j := (2 : Int32)) 2 (by decide) (.double x2) rfl 29 rfl ?_
  refine s_aloadN X0 hx (hb hby d4_29) rfl rfl 30 rfl ?_
  refine s_iconst X0 hx (hb hby d4_30) (2 : Int32) rfl 31 rfl ?_
  refine s_daload X0 hx hZ e0 A2 (hb hby d4_31) (j := (2 : Int32)) 2 (by decide) (.double y2) rfl 32 rfl ?_
  refine s_dcmp X0 hx (hb hby d4_32) (0 : Int32) (by rw [show FP.dcmp x2 y2 = some .eq from hq2]; rfl) 33 rfl ?_
  refine s_ifN X0 hx (hb hby d4_33) (by decide) 36 rfl ?_
  refine s_aloadN X0 hx (hb hby d4_36) rfl rfl 37 rfl ?_
  refine s_iconst X0 hx (hb hby d4_37) (1 : Int32) rfl 38 rfl ?_
  refine s_aaload X0 hx hZ e0 A1 rfl (hb hby d4_38) (j := (1 : Int32)) 1 (by decide) (.ref b1) rfl 39 rfl ?_
  refine s_iconst X0 hx (hb hby d4_39) (0 : Int32) rfl 40 rfl ?_
  refine s_daload X0 hx hZ e0 B1 (hb hby d4_40) (j := (0 : Int32)) 0 (by decide) (.double x3) rfl 41 rfl ?_
  refine s_aloadN X0 hx (hb hby d4_41) rfl rfl 42 rfl ?_
  refine s_iconst X0 hx (hb hby d4_42) (3 : Int32) rfl 43 rfl ?_
  refine s_daload X0 hx hZ e0 A2 (hb hby d4_43) (j := (3 : Int32)) 3 (by decide) (.double y3) rfl 44 rfl ?_
  refine s_dcmp X0 hx (hb hby d4_44) (0 : Int32) (by rw [show FP.dcmp x3 y3 = some .eq from hq3]; rfl) 45 rfl ?_
  refine s_ifN X0 hx (hb hby d4_45) (by decide) 48 rfl ?_
  refine s_aloadN X0 hx (hb hby d4_48) rfl rfl 49 rfl ?_
  refine s_iconst X0 hx (hb hby d4_49) (1 : Int32) rfl 50 rfl ?_
  refine s_aaload X0 hx hZ e0 A1 rfl (hb hby d4_50) (j := (1 : Int32)) 1 (by decide) (.ref b1) rfl 51 rfl ?_
  refine s_iconst X0 hx (hb hby d4_51) (1 : Int32) rfl 52 rfl ?_
  refine s_daload X0 hx hZ e0 B1 (hb hby d4_52) (j := (1 : Int32)) 1 (by decide) (.double x4) rfl 53 rfl ?_
  refine s_aloadN X0 hx (hb hby d4_53) rfl rfl 54 rfl ?_
  refine s_iconst X0 hx (hb hby d4_54) (4 : Int32) rfl 55 rfl ?_
  refine s_daload X0 hx hZ e0 A2 (hb hby d4_55) (j := (4 : Int32)) 4 (by decide) (.double y4) rfl 56 rfl ?_
  refine s_dcmp X0 hx (hb hby d4_56) (0 : Int32) (by rw [show FP.dcmp x4 y4 = some .eq from hq4]; rfl) 57 rfl ?_
  refine s_ifN X0 hx (hb hby d4_57) (by decide) 60 rfl ?_
  refine s_aloadN X0 hx (hb hby d4_60) rfl rfl 61 rfl ?_
  refine s_iconst X0 hx (hb hby d4_61) (1 : Int32) rfl 62 rfl ?_
  refine s_aaload X0 hx hZ e0 A1 rfl (hb hby d4_62) (j := (1 : Int32)) 1 (by decide) (.ref b1) rfl 63 rfl ?_
  refine s_iconst X0 hx (hb hby d4_63) (2 : Int32) rfl 64 rfl ?_
  refine s_daload X0 hx hZ e0 B1 (hb hby d4_64) (j := (2 : Int32)) 2 (by decide) (.double x5) rfl 65 rfl ?_
  refine s_aloadN X0 hx (hb hby d4_65) rfl rfl 66 rfl ?_
  refine s_iconst X0 hx (hb hby d4_66) (5 : Int32) rfl 67 rfl ?_
  refine s_daload X0 hx hZ e0 A2 (hb hby d4_67) (j := (5 : Int32)) 5 (by decide) (.double y5) rfl 68 rfl ?_
  refine s_dcmp X0 hx (hb hby d4_68) (0 : Int32) (by rw [show FP.dcmp x5 y5 = some .eq from hq5]; rfl) 69 rfl ?_
  refine s_ifN X0 hx (hb hby d4_69) (by decide) 72 rfl ?_
  refine s_aloadN X0 hx (hb hby d4_72) rfl rfl 73 rfl ?_
  refine s_iconst X0 hx (hb hby d4_73) (2 : Int32) rfl 74 rfl ?_
  refine s_aaload X0 hx hZ e0 A1 rfl (hb hby d4_74) (j := (2 : Int32)) 2 (by decide) (.ref b2) rfl 75 rfl ?_
  refine s_iconst X0 hx (hb hby d4_75) (0 : Int32) rfl 76 rfl ?_
  refine s_daload X0 hx hZ e0 B2 (hb hby d4_76) (j := (0 : Int32)) 0 (by decide) (.double x6) rfl 77 rfl ?_
  refine s_aloadN X0 hx (hb hby d4_77) rfl rfl 78 rfl ?_
  refine s_bipush X0 hx (hb hby d4_78) (6 : Int32) rfl 80 rfl ?_
  refine s_daload X0 hx hZ e0 A2 (hb hby d4_80) (j := (6 : Int32)) 6 (by decide) (.double y6) rfl 81 rfl ?_
  refine s_dcmp X0 hx (hb hby d4_81) (0 : Int32) (by rw [show FP.dcmp x6 y6 = some .eq from hq6]; rfl) 82 rfl ?_
  refine s_ifN X0 hx (hb hby d4_82) (by decide) 85 rfl ?_
  refine s_aloadN X0 hx (hb hby d4_85) rfl rfl 86 rfl ?_
  refine s_iconst X0 hx (hb hby d4_86) (2 : Int32) rfl 87 rfl ?_
  refine s_aaload X0 hx hZ e0 A1 rfl (hb hby d4_87) (j := (2 : Int32)) 2 (by decide) (.ref b2) rfl 88 rfl ?_
  refine s_iconst X0 hx (hb hby d4_88) (1 : Int32) rfl 89 rfl ?_
  refine s_daload X0 hx hZ e0 B2 (hb hby d4_89) (j := (1 : Int32)) 1 (by decide) (.double x7) rfl 90 rfl ?_
  refine s_aloadN X0 hx (hb hby d4_90) rfl rfl 91 rfl ?_
  refine s_bipush X0 hx (hb hby d4_91) (7 : Int32) rfl 93 rfl ?_
  refine s_daload X0 hx hZ e0 A2 (hb hby d4_93) (j := (7 : Int32)) 7 (by decide) (.double y7) rfl 94 rfl ?_
  refine s_dcmp X0 hx (hb hby d4_94) (0 : Int32) (by rw [show FP.dcmp x7 y7 = some .eq from hq7]; rfl) 95 rfl ?_
  refine s_ifN X0 hx (hb hby d4_95) (by decide) 98 rfl ?_
  refine s_aloadN X0 hx (hb hby d4_98) rfl rfl 99 rfl ?_
  refine s_iconst X0 hx (hb hby d4_99) (2 : Int32) rfl 100 rfl ?_
  refine s_aaload X0 hx hZ e0 A1 rfl (hb hby d4_100) (j := (2 : Int32)) 2 (by decide) (.ref b2) rfl 101 rfl ?_
  refine s_iconst X0 hx (hb hby d4_101) (2 : Int32) rfl 102 rfl ?_
  refine s_daload X0 hx hZ e0 B2 (hb hby d4_102) (j := (2 : Int32)) 2 (by decide) (.double x8) rfl 103 rfl ?_
  refine s_aloadN X0 hx (hb hby d4_103) rfl rfl 104 rfl ?_
  refine s_bipush X0 hx (hb hby d4_104) (8 : Int32) rfl 106 rfl ?_
  refine s_daload X0 hx hZ e0 A2 (hb hby d4_106) (j := (8 : Int32)) 8 (by decide) (.double y8) rfl 107 rfl ?_
  refine s_dcmp X0 hx (hb hby d4_107) (0 : Int32) (by rw [show FP.dcmp x8 y8 = some .eq from hq8]; rfl) 108 rfl ?_
  refine s_ifN X0 hx (hb hby d4_108) (by decide) 111 rfl ?_
  refine s_iconst X0 hx (hb hby d4_111) (1 : Int32) rfl 112 rfl ?_
  refine s_goto X0 hx (hb hby d4_112) 116 (by decide) (by decide) ?_
  exact retZ X0 hx hlk hret (hb hby d4_116) (by decide) e0 ⟨rfl, N0, rfl⟩ (by decide) (by decide)
theorem dc_4602678819172646912 : Jvm.OwnFP.Db 1 (1) 1 (4602678819172646912 : UInt64) := Jvm.OwnFP.Db.lit false 4503599627370496 (-53) 1 (1) 1 (by decide +kernel) (by decide +kernel)
theorem dc_4598175219545276416 : Jvm.OwnFP.Db 1 (1) 2 (4598175219545276416 : UInt64) := Jvm.OwnFP.Db.lit false 4503599627370496 (-54) 1 (1) 2 (by decide +kernel) (by decide +kernel)
set_option maxRecDepth 65536 in
set_option maxHeartbeats 40000000 in
theorem rm_law (l : Launch) (Z : State) (a0 : Array Value) (hw : ∀ d ∈ tables_1, d.before a0 Z = true) (ws : List Jvm.Cond) (i0 i1 i2 i3 i4 i5 : Int32) (h0 : Heap) (n0 : Nat) (Z0 : n0 ≤ h0.size)  :
    Ct l Z x code maxLocals ret ws room_1 #[.int i0, .int i1, .int i2, .int i3, .int i4, .int i5] h0 (fun v h L => v = some (.int 1) ∧ Fr n0 L) := by
  refine Ct.intro pn_law #[.val (.int i0), .val (.int i1), .val (.int i2), .val (.int i3), .val (.int i4), .val (.int i5), .unset, .unset, .unset, .unset, .unset] (fun _ => by first | (simp [entryFrame, mkF, argsToLocals, Value.category, maxLocals]; done) | rfl) ?_
  intro p e s m below meth c T0 X0 hx hZ hby hml hown hnm hret hlk e0
  have N0 := Fr.nil n0
  refine s_bipush X0 hx (hb hby at_0) (9 : Int32) rfl 2 rfl ?_
  obtain ⟨T167, h167, c167, X167, e167, E167, A167, st167⟩ := s_newarray X0 hx hZ (aty := .double) (wd hw 0 _ rfl) e0 (hb hby at_2) #[.val (.int i0), .val (.int i1), .val (.int i2), .val (.int i3), .val (.int i4), .val (.int i5), .unset, .unset, .unset, .unset, .unset] [] (n := (9 : Int32)) 9 (by decide) [.double (0 : UInt64), .double (0 : UInt64), .double (0 : UInt64), .double (0 : UInt64), .double (0 : UInt64), .double (0 : UInt64), .double (0 : UInt64), .double (0 : UInt64), .double (0 : UInt64)] rfl (by decide) (by decide) (by decide) 4 rfl
  obtain ⟨a167, g167⟩ : ∃ z, z = h0.size := ⟨_, rfl⟩
  rw [← g167] at A167 st167
  have q168 : n0 ≤ a167 := by rw [g167]; exact Z0
  have Z169 := Nat.le_trans Z0 E167.1
  refine Go.via st167 ?_
  refine s_dup X167 hx (hb hby at_4) rfl 5 rfl ?_
  refine s_iconst X167 hx (hb hby at_5) (0 : Int32) rfl 6 rfl ?_
  refine s_iloadN X167 hx (hb hby at_6) rfl 7 rfl ?_
  have Dd170 := Ib.i2d (Ib.any i0)
  obtain ⟨d170, h_d170⟩ : ∃ v, (FP.i2d i0) = v := ⟨_, rfl⟩
  rw [h_d170] at Dd170
  refine s_i2d X167 hx (hb hby at_7) d170 h_d170 8 rfl ?_
  obtain ⟨T171, h171, X171, e171, W171, A171, st171⟩ := s_dastore X167 hx hZ e167 A167 (hb hby at_8) #[.val (.int i0), .val (.int i1), .val (.int i2), .val (.int i3), .val (.int i4), .val (.int i5), .unset, .unset, .unset, .unset, .unset] [.ref a167] (j := (0 : Int32)) 0 (by decide) (by show 0 < 9; decide) d170 [.double d170, .double (0 : UInt64), .double (0 : UInt64), .double (0 : UInt64), .double (0 : UInt64), .double (0 : UInt64), .double (0 : UInt64), .double (0 : UInt64), .double (0 : UInt64)] rfl 9 rfl
  have N171 := Fr.snoc X171 N0 q168
  have Z172 : n0 ≤ h171.size := by rw [W171.size]; exact Z169
  refine Go.via st171 ?_
  refine s_dup X171 hx (hb hby at_9) rfl 10 rfl ?_
  refine s_iconst X171 hx (hb hby at_10) (1 : Int32) rfl 11 rfl ?_
  refine s_iloadN X171 hx (hb hby at_11) rfl 12 rfl ?_
  have Dd173 := Ib.i2d (Ib.any i1)
  obtain ⟨d173, h_d173⟩ : ∃ v, (FP.i2d i1) = v := ⟨_, rfl⟩
  rw [h_d173] at Dd173
  refine s_i2d X171 hx (hb hby at_12) d173 h_d173 13 rfl ?_
  obtain ⟨T174, h174, X174, e174, W174, A174, st174⟩ := s_dastore X171 hx hZ e171 A171 (hb hby at_13) #[.val (.int i0), .val (.int i1), .val (.int i2), .val (.int i3), .val (.int i4), .val (.int i5), .unset, .unset, .unset, .unset, .unset] [.ref a167] (j := (1 : Int32)) 1 (by decide) (by show 1 < 9; decide) d173 [.double d170, .double d173, .double (0 : UInt64), .double (0 : UInt64), .double (0 : UInt64), .double (0 : UInt64), .double (0 : UInt64), .double (0 : UInt64), .double (0 : UInt64)] rfl 14 rfl
  have N174 := Fr.snoc X174 N171 q168
  have Z175 : n0 ≤ h174.size := by rw [W174.size]; exact Z172
  refine Go.via st174 ?_
  refine s_dup X174 hx (hb hby at_14) rfl 15 rfl ?_
  refine s_iconst X174 hx (hb hby at_15) (2 : Int32) rfl 16 rfl ?_
  refine s_iloadN X174 hx (hb hby at_16) rfl 17 rfl ?_
  have Dd176 := Ib.i2d (Ib.any i2)
  obtain ⟨d176, h_d176⟩ : ∃ v, (FP.i2d i2) = v := ⟨_, rfl⟩
  rw [h_d176] at Dd176
  refine s_i2d X174 hx (hb hby at_17) d176 h_d176 18 rfl ?_
  obtain ⟨T177, h177, X177, e177, W177, A177, st177⟩ := s_dastore X174 hx hZ e174 A174 (hb hby at_18) #[.val (.int i0), .val (.int i1), .val (.int i2), .val (.int i3), .val (.int i4), .val (.int i5), .unset, .unset, .unset, .unset, .unset] [.ref a167] (j := (2 : Int32)) 2 (by decide) (by show 2 < 9; decide) d176 [.double d170, .double d173, .double d176, .double (0 : UInt64), .double (0 : UInt64), .double (0 : UInt64), .double (0 : UInt64), .double (0 : UInt64), .double (0 : UInt64)] rfl 19 rfl
  have N177 := Fr.snoc X177 N174 q168
  have Z178 : n0 ≤ h177.size := by rw [W177.size]; exact Z175
  refine Go.via st177 ?_
  refine s_dup X177 hx (hb hby at_19) rfl 20 rfl ?_
  refine s_iconst X177 hx (hb hby at_20) (3 : Int32) rfl 21 rfl ?_
  refine s_iloadN X177 hx (hb hby at_21) rfl 22 rfl ?_
  have Dd179 := Ib.i2d (Ib.any i3)
  obtain ⟨d179, h_d179⟩ : ∃ v, (FP.i2d i3) = v := ⟨_, rfl⟩
  rw [h_d179] at Dd179
  refine s_i2d X177 hx (hb hby at_22) d179 h_d179 23 rfl ?_
  obtain ⟨T180, h180, X180, e180, W180, A180, st180⟩ := s_dastore X177 hx hZ e177 A177 (hb hby at_23) #[.val (.int i0), .val (.int i1), .val (.int i2), .val (.int i3), .val (.int i4), .val (.int i5), .unset, .unset, .unset, .unset, .unset] [.ref a167] (j := (3 : Int32)) 3 (by decide) (by show 3 < 9; decide) d179 [.double d170, .double d173, .double d176, .double d179, .double (0 : UInt64), .double (0 : UInt64), .double (0 : UInt64), .double (0 : UInt64), .double (0 : UInt64)] rfl 24 rfl
  have N180 := Fr.snoc X180 N177 q168
  have Z181 : n0 ≤ h180.size := by rw [W180.size]; exact Z178
  refine Go.via st180 ?_
  refine s_dup X180 hx (hb hby at_24) rfl 25 rfl ?_
  refine s_iconst X180 hx (hb hby at_25) (4 : Int32) rfl 26 rfl ?_
  refine s_iload X180 hx (hb hby at_26) rfl 28 rfl ?_
  have Dd182 := Ib.i2d (Ib.any i4)
  obtain ⟨d182, h_d182⟩ : ∃ v, (FP.i2d i4) = v := ⟨_, rfl⟩
  rw [h_d182] at Dd182
  refine s_i2d X180 hx (hb hby at_28) d182 h_d182 29 rfl ?_
  obtain ⟨T183, h183, X183, e183, W183, A183, st183⟩ := s_dastore X180 hx hZ e180 A180 (hb hby at_29) #[.val (.int i0), .val (.int i1), .val (.int i2), .val (.int i3), .val (.int i4), .val (.int i5), .unset, .unset, .unset, .unset, .unset] [.ref a167] (j := (4 : Int32)) 4 (by decide) (by show 4 < 9; decide) d182 [.double d170, .double d173, .double d176, .double d179, .double d182, .double (0 : UInt64), .double (0 : UInt64), .double (0 : UInt64), .double (0 : UInt64)] rfl 30 rfl
  have N183 := Fr.snoc X183 N180 q168
  have Z184 : n0 ≤ h183.size := by rw [W183.size]; exact Z181
  refine Go.via st183 ?_
  refine s_dup X183 hx (hb hby at_30) rfl 31 rfl ?_
  refine s_iconst X183 hx (hb hby at_31) (5 : Int32) rfl 32 rfl ?_
  refine s_iload X183 hx (hb hby at_32) rfl 34 rfl ?_
  have Dd185 := Ib.i2d (Ib.any i5)
  obtain ⟨d185, h_d185⟩ : ∃ v, (FP.i2d i5) = v := ⟨_, rfl⟩
  rw [h_d185] at Dd185
  refine s_i2d X183 hx (hb hby at_34) d185 h_d185 35 rfl ?_
  obtain ⟨T186, h186, X186, e186, W186, A186, st186⟩ := s_dastore X183 hx hZ e183 A183 (hb hby at_35) #[.val (.int i0), .val (.int i1), .val (.int i2), .val (.int i3), .val (.int i4), .val (.int i5), .unset, .unset, .unset, .unset, .unset] [.ref a167] (j := (5 : Int32)) 5 (by decide) (by show 5 < 9; decide) d185 [.double d170, .double d173, .double d176, .double d179, .double d182, .double d185, .double (0 : UInt64), .double (0 : UInt64), .double (0 : UInt64)] rfl 36 rfl
  have N186 := Fr.snoc X186 N183 q168
  have Z187 : n0 ≤ h186.size := by rw [W186.size]; exact Z184
  refine Go.via st186 ?_
  refine s_dup X186 hx (hb hby at_36) rfl 37 rfl ?_
  refine s_bipush X186 hx (hb hby at_37) (6 : Int32) rfl 39 rfl ?_
  refine s_iloadN X186 hx (hb hby at_39) rfl 40 rfl ?_
  have Dd188 := Ib.i2d (Ib.any i0)
  obtain ⟨d188, h_d188⟩ : ∃ v, (FP.i2d i0) = v := ⟨_, rfl⟩
  rw [h_d188] at Dd188
  refine s_i2d X186 hx (hb hby at_40) d188 h_d188 41 rfl ?_
  refine s_ldc2D X186 hx (hb hby at_41) hZ hown (wd hw 1 _ rfl) 44 rfl ?_
  have Dd189 := Db.add (Db.up Dd188 1) dc_4602678819172646912 (by decide)
  obtain ⟨d189, h_d189⟩ : ∃ v, FP.dadd d188 (4602678819172646912 : UInt64) = v := ⟨_, rfl⟩
  rw [h_d189] at Dd189
  refine s_dadd X186 hx (hb hby at_44) d189 h_d189 Dd189.nn 45 rfl ?_
  obtain ⟨T190, h190, X190, e190, W190, A190, st190⟩ := s_dastore X186 hx hZ e186 A186 (hb hby at_45) #[.val (.int i0), .val (.int i1), .val (.int i2), .val (.int i3), .val (.int i4), .val (.int i5), .unset, .unset, .unset, .unset, .unset] [.ref a167] (j := (6 : Int32)) 6 (by decide) (by show 6 < 9; decide) d189 [.double d170, .double d173, .double d176, .double d179, .double d182, .double d185, .double d189, .double (0 : UInt64), .double (0 : UInt64)] rfl 46 rfl
  have N190 := Fr.snoc X190 N186 q168
  have Z191 : n0 ≤ h190.size := by rw [W190.size]; exact Z187
  refine Go.via st190 ?_
  refine s_dup X190 hx (hb hby at_46) rfl 47 rfl ?_
  refine s_bipush X190 hx (hb hby at_47) (7 : Int32) rfl 49 rfl ?_
  refine s_iloadN X190 hx (hb hby at_49) rfl 50 rfl ?_
  have Dd192 := Ib.i2d (Ib.any i1)
  obtain ⟨d192, h_d192⟩ : ∃ v, (FP.i2d i1) = v := ⟨_, rfl⟩
  rw [h_d192] at Dd192
  refine s_i2d X190 hx (hb hby at_50) d192 h_d192 51 rfl ?_
  refine s_ldc2D X190 hx (hb hby at_51) hZ hown (wd hw 1 _ rfl) 54 rfl ?_
  have Dd193 := Db.add (Db.up Dd192 1) dc_4602678819172646912 (by decide)
  obtain ⟨d193, h_d193⟩ : ∃ v, FP.dadd d192 (4602678819172646912 : UInt64) = v := ⟨_, rfl⟩
  rw [h_d193] at Dd193
  refine s_dadd X190 hx (hb hby at_54) d193 h_d193 Dd193.nn 55 rfl ?_
  obtain ⟨T194, h194, X194, e194, W194, A194, st194⟩ := s_dastore X190 hx hZ e190 A190 (hb hby at_55) #[.val (.int i0), .val (.int i1), .val (.int i2), .val (.int i3), .val (.int i4), .val (.int i5), .unset, .unset, .unset, .unset, .unset] [.ref a167] (j := (7 : Int32)) 7 (by decide) (by show 7 < 9; decide) d193 [.double d170, .double d173, .double d176, .double d179, .double d182, .double d185, .double d189, .double d193, .double (0 : UInt64)] rfl 56 rfl
  have N194 := Fr.snoc X194 N190 q168
  have Z195 : n0 ≤ h194.size := by rw [W194.size]; exact Z191
  refine Go.via st194 ?_
  refine s_dup X194 hx (hb hby at_56) rfl 57 rfl ?_
  refine s_bipush X194 hx (hb hby at_57) (8 : Int32) rfl 59 rfl ?_
  refine s_iloadN X194 hx (hb hby at_59) rfl 60 rfl ?_
  have Dd196 := Ib.i2d (Ib.any i2)
  obtain ⟨d196, h_d196⟩ : ∃ v, (FP.i2d i2) = v := ⟨_, rfl⟩
  rw [h_d196] at Dd196
  refine s_i2d X194 hx (hb hby at_60) d196 h_d196 61 rfl ?_
  refine s_ldc2D X194 hx (hb hby at_61) hZ hown (wd hw 1 _ rfl) 64 rfl ?_
  have Dd197 := Db.add (Db.up Dd196 1) dc_4602678819172646912 (by decide)
  obtain ⟨d197, h_d197⟩ : ∃ v, FP.dadd d196 (4602678819172646912 : UInt64) = v := ⟨_, rfl⟩
  rw [h_d197] at Dd197
  refine s_dadd X194 hx (hb hby at_64) d197 h_d197 Dd197.nn 65 rfl ?_
  obtain ⟨T198, h198, X198, e198, W198, A198, st198⟩ := s_dastore X194 hx hZ e194 A194 (hb hby at_65) #[.val (.int i0), .val (.int i1), .val (.int i2), .val (.int i3), .val (.int i4), .val (.int i5), .unset, .unset, .unset, .unset, .unset] [.ref a167] (j := (8 : Int32)) 8 (by decide) (by show 8 < 9; decide) d197 [.double d170, .double d173, .double d176, .double d179, .double d182, .double d185, .double d189, .double d193, .double d197] rfl 66 rfl
  have N198 := Fr.snoc X198 N194 q168
  have Z199 : n0 ≤ h198.size := by rw [W198.size]; exact Z195
  refine Go.via st198 ?_
  refine s_astore X198 hx (hb hby at_66) rfl #[.val (.int i0), .val (.int i1), .val (.int i2), .val (.int i3), .val (.int i4), .val (.int i5), .val (.ref a167), .unset, .unset, .unset, .unset] rfl 68 rfl ?_
  refine s_bipush X198 hx (hb hby at_68) (9 : Int32) rfl 70 rfl ?_
  obtain ⟨T200, h200, c200, X200, e200, E200, A200, st200⟩ := s_newarray X198 hx hZ (aty := .double) (wd hw 0 _ rfl) e198 (hb hby at_70) #[.val (.int i0), .val (.int i1), .val (.int i2), .val (.int i3), .val (.int i4), .val (.int i5), .val (.ref a167), .unset, .unset, .unset, .unset] [] (n := (9 : Int32)) 9 (by decide) [.double (0 : UInt64), .double (0 : UInt64), .double (0 : UInt64), .double (0 : UInt64), .double (0 : UInt64), .double (0 : UInt64), .double (0 : UInt64), .double (0 : UInt64), .double (0 : UInt64)] rfl (by decide) (by decide) (by decide) 72 rfl
  obtain ⟨a200, g200⟩ : ∃ z, z = h198.size := ⟨_, rfl⟩
  rw [← g200] at A200 st200
  have ne201 : a167 ≠ a200 := by rw [g200]; exact Nat.ne_of_lt A198.lt
  have q202 : n0 ≤ a200 := by rw [g200]; exact Z199
  have F203 := A198.ext E200
  have Z204 := Nat.le_trans Z199 E200.1
  refine Go.via st200 ?_
  refine s_dup X200 hx (hb hby at_72) rfl 73 rfl ?_
  refine s_iconst X200 hx (hb hby at_73) (0 : Int32) rfl 74 rfl ?_
  refine s_aload X200 hx (hb hby at_74) rfl rfl 76 rfl ?_
  refine s_iconst X200 hx (hb hby at_76) (0 : Int32) rfl 77 rfl ?_
  refine s_daload X200 hx hZ e200 F203 (hb hby at_77) (j := (0 : Int32)) 0 (by decide) (.double d170) rfl 78 rfl ?_
  obtain ⟨T205, h205, X205, e205, W205, A205, st205⟩ := s_dastore X200 hx hZ e200 A200 (hb hby at_78) #[.val (.int i0), .val (.int i1), .val (.int i2), .val (.int i3), .val (.int i4), .val (.int i5), .val (.ref a167), .unset, .unset, .unset, .unset] [.ref a200] (j := (0 : Int32)) 0 (by decide) (by show 0 < 9; decide) d170 [.double d170, .double (0 : UInt64), .double (0 : UInt64), .double (0 : UInt64), .double (0 : UInt64), .double (0 : UInt64), .double (0 : UInt64), .double (0 : UInt64), .double (0 : UInt64)] rfl 79 rfl
  have N205 := Fr.snoc X205 N198 q202
  have F206 := F203.other W205 ne201
  have Z207 : n0 ≤ h205.size := by rw [W205.size]; exact Z204
  refine Go.via st205 ?_
  refine s_dup X205 hx (hb hby at_79) rfl 80 rfl ?_
  refine s_iconst X205 hx (hb hby at_80) (1 : Int32) rfl 81 rfl ?_
  refine s_aload X205 hx (hb hby at_81) rfl rfl 83 rfl ?_
  refine s_iconst X205 hx (hb hby at_83) (1 : Int32) rfl 84 rfl ?_
  refine s_daload X205 hx hZ e205 F206 (hb hby at_84) (j := (1 : Int32)) 1 (by decide) (.double d173) rfl 85 rfl ?_
  obtain ⟨T208, h208, X208, e208, W208, A208, st208⟩ := s_dastore X205 hx hZ e205 A205 (hb hby at_85) #[.val (.int i0), .val (.int i1), .val (.int i2), .val (.int i3), .val (.int i4), .val (.int i5), .val (.ref a167), .unset, .unset, .unset, .unset] [.ref a200] (j := (1 : Int32)) 1 (by decide) (by show 1 < 9; decide) d173 [.double d170, .double d173, .double (0 : UInt64), .double (0 : UInt64), .double (0 : UInt64), .double (0 : UInt64), .double (0 : UInt64), .double (0 : UInt64), .double (0 : UInt64)] rfl 86 rfl
  have N208 := Fr.snoc X208 N205 q202
  have F209 := F206.other W208 ne201
  have Z210 : n0 ≤ h208.size := by rw [W208.size]; exact Z207
  refine Go.via st208 ?_
  refine s_dup X208 hx (hb hby at_86) rfl 87 rfl ?_
  refine s_iconst X208 hx (hb hby at_87) (2 : Int32) rfl 88 rfl ?_
  refine s_aload X208 hx (hb hby at_88) rfl rfl 90 rfl ?_
  refine s_iconst X208 hx (hb hby at_90) (2 : Int32) rfl 91 rfl ?_
  refine s_daload X208 hx hZ e208 F209 (hb hby at_91) (j := (2 : Int32)) 2 (by decide) (.double d176) rfl 92 rfl ?_
  obtain ⟨T211, h211, X211, e211, W211, A211, st211⟩ := s_dastore X208 hx hZ e208 A208 (hb hby at_92) #[.val (.int i0), .val (.int i1), .val (.int i2), .val (.int i3), .val (.int i4), .val (.int i5), .val (.ref a167), .unset, .unset, .unset, .unset] [.ref a200] (j := (2 : Int32)) 2 (by decide) (by show 2 < 9; decide) d176 [.double d170, .double d173, .double d176, .double (0 : UInt64), .double (0 : UInt64), .double (0 : UInt64), .double (0 : UInt64), .double (0 : UInt64), .double (0 : UInt64)] rfl 93 rfl
  have N211 := Fr.snoc X211 N208 q202
  have F212 := F209.other W211 ne201
  have Z213 : n0 ≤ h211.size := by rw [W211.size]; exact Z210
  refine Go.via st211 ?_
  refine s_dup X211 hx (hb hby at_93) rfl 94 rfl ?_
  refine s_iconst X211 hx (hb hby at_94) (3 : Int32) rfl 95 rfl ?_
  refine s_aload X211 hx (hb hby at_95) rfl rfl 97 rfl ?_
  refine s_iconst X211 hx (hb hby at_97) (3 : Int32) rfl 98 rfl ?_
  refine s_daload X211 hx hZ e211 F212 (hb hby at_98) (j := (3 : Int32)) 3 (by decide) (.double d179) rfl 99 rfl ?_
  obtain ⟨T214, h214, X214, e214, W214, A214, st214⟩ := s_dastore X211 hx hZ e211 A211 (hb hby at_99) #[.val (.int i0), .val (.int i1), .val (.int i2), .val (.int i3), .val (.int i4), .val (.int i5), .val (.ref a167), .unset, .unset, .unset, .unset] [.ref a200] (j := (3 : Int32)) 3 (by decide) (by show 3 < 9; decide) d179 [.double d170, .double d173, .double d176, .double d179, .double (0 : UInt64), .double (0 : UInt64), .double (0 : UInt64), .double (0 : UInt64), .double (0 : UInt64)] rfl 100 rfl
  have N214 := Fr.snoc X214 N211 q202
  have F215 := F212.other W214 ne201
  have Z216 : n0 ≤ h214.size := by rw [W214.size]; exact Z213
  refine Go.via st214 ?_
  refine s_dup X214 hx (hb hby at_100) rfl 101 rfl ?_
  refine s_iconst X214 hx (hb hby at_101) (4 : Int32) rfl 102 rfl ?_
  refine s_aload X214 hx (hb hby at_102) rfl rfl 104 rfl ?_
  refine s_iconst X214 hx (hb hby at_104) (4 : Int32) rfl 105 rfl ?_
  refine s_daload X214 hx hZ e214 F215 (hb hby at_105) (j := (4 : Int32)) 4 (by decide) (.double d182) rfl 106 rfl ?_
  obtain ⟨T217, h217, X217, e217, W217, A217, st217⟩ := s_dastore X214 hx hZ e214 A214 (hb hby at_106) #[.val (.int i0), .val (.int i1), .val (.int i2), .val (.int i3), .val (.int i4), .val (.int i5), .val (.ref a167), .unset, .unset, .unset, .unset] [.ref a200] (j := (4 : Int32)) 4 (by decide) (by show 4 < 9; decide) d182 [.double d170, .double d173, .double d176, .double d179, .double d182, .double (0 : UInt64), .double (0 : UInt64), .double (0 : UInt64), .double (0 : UInt64)] rfl 107 rfl
  have N217 := Fr.snoc X217 N214 q202
  have F218 := F215.other W217 ne201
  have Z219 : n0 ≤ h217.size := by rw [W217.size]; exact Z216
  refine Go.via st217 ?_
  refine s_dup X217 hx (hb hby at_107) rfl 108 rfl ?_
  refine s_iconst X217 hx (hb hby at_108) (5 : Int32) rfl 109 rfl ?_
  refine s_aload X217 hx (hb hby at_109) rfl rfl 111 rfl ?_
  refine s_iconst X217 hx (hb hby at_111) (5 : Int32) rfl 112 rfl ?_
  refine s_daload X217 hx hZ e217 F218 (hb hby at_112) (j := (5 : Int32)) 5 (by decide) (.double d185) rfl 113 rfl ?_
  obtain ⟨T220, h220, X220, e220, W220, A220, st220⟩ := s_dastore X217 hx hZ e217 A217 (hb hby at_113) #[.val (.int i0), .val (.int i1), .val (.int i2), .val (.int i3), .val (.int i4), .val (.int i5), .val (.ref a167), .unset, .unset, .unset, .unset] [.ref a200] (j := (5 : Int32)) 5 (by decide) (by show 5 < 9; decide) d185 [.double d170, .double d173, .double d176, .double d179, .double d182, .double d185, .double (0 : UInt64), .double (0 : UInt64), .double (0 : UInt64)] rfl 114 rfl
  have N220 := Fr.snoc X220 N217 q202
  have F221 := F218.other W220 ne201
  have Z222 : n0 ≤ h220.size := by rw [W220.size]; exact Z219
  refine Go.via st220 ?_
  refine s_dup X220 hx (hb hby at_114) rfl 115 rfl ?_
  refine s_bipush X220 hx (hb hby at_115) (6 : Int32) rfl 117 rfl ?_
  refine s_aload X220 hx (hb hby at_117) rfl rfl 119 rfl ?_
  refine s_bipush X220 hx (hb hby at_119) (6 : Int32) rfl 121 rfl ?_
  refine s_daload X220 hx hZ e220 F221 (hb hby at_121) (j := (6 : Int32)) 6 (by decide) (.double d189) rfl 122 rfl ?_
  obtain ⟨T223, h223, X223, e223, W223, A223, st223⟩ := s_dastore X220 hx hZ e220 A220 (hb hby at_122) #[.val (.int i0), .val (.int i1), .val (.int i2), .val (.int i3), .val (.int i4), .val (.int i5), .val (.ref a167), .unset, .unset, .unset, .unset] [.ref a200] (j := (6 : Int32)) 6 (by decide) (by show 6 < 9; decide) d189 [.double d170, .double d173, .double d176, .double d179, .double d182, .double d185, .double d189, .double (0 : UInt64), .double (0 : UInt64)] rfl 123 rfl
  have N223 := Fr.snoc X223 N220 q202
  have F224 := F221.other W223 ne201
  have Z225 : n0 ≤ h223.size := by rw [W223.size]; exact Z222
  refine Go.via st223 ?_
  refine s_dup X223 hx (hb hby at_123) rfl 124 rfl ?_
  refine s_bipush X223 hx (hb hby at_124) (7 : Int32) rfl 126 rfl ?_
  refine s_aload X223 hx (hb hby at_126) rfl rfl 128 rfl ?_
  refine s_bipush X223 hx (hb hby at_128) (7 : Int32) rfl 130 rfl ?_
  refine s_daload X223 hx hZ e223 F224 (hb hby at_130) (j := (7 : Int32)) 7 (by decide) (.double d193) rfl 131 rfl ?_
  obtain ⟨T226, h226, X226, e226, W226, A226, st226⟩ := s_dastore X223 hx hZ e223 A223 (hb hby at_131) #[.val (.int i0), .val (.int i1), .val (.int i2), .val (.int i3), .val (.int i4), .val (.int i5), .val (.ref a167), .unset, .unset, .unset, .unset] [.ref a200] (j := (7 : Int32)) 7 (by decide) (by show 7 < 9; decide) d193 [.double d170, .double d173, .double d176, .double d179, .double d182, .double d185, .double d189, .double d193, .double (0 : UInt64)] rfl 132 rfl
  have N226 := Fr.snoc X226 N223 q202
  have F227 := F224.other W226 ne201
  have Z228 : n0 ≤ h226.size := by rw [W226.size]; exact Z225
  refine Go.via st226 ?_
  refine s_dup X226 hx (hb hby at_132) rfl 133 rfl ?_
  refine s_bipush X226 hx (hb hby at_133) (8 : Int32) rfl 135 rfl ?_
  refine s_aload X226 hx (hb hby at_135) rfl rfl 137 rfl ?_
  refine s_bipush X226 hx (hb hby at_137) (8 : Int32) rfl 139 rfl ?_
  refine s_daload X226 hx hZ e226 F227 (hb hby at_139) (j := (8 : Int32)) 8 (by decide) (.double d197) rfl 140 rfl ?_
  obtain ⟨T229, h229, X229, e229, W229, A229, st229⟩ := s_dastore X226 hx hZ e226 A226 (hb hby at_140) #[.val (.int i0), .val (.int i1), .val (.int i2), .val (.int i3), .val (.int i4), .val (.int i5), .val (.ref a167), .unset, .unset, .unset, .unset] [.ref a200] (j := (8 : Int32)) 8 (by decide) (by show 8 < 9; decide) d197 [.double d170, .double d173, .double d176, .double d179, .double d182, .double d185, .double d189, .double d193, .double d197] rfl 141 rfl
  have N229 := Fr.snoc X229 N226 q202
  have F230 := F227.other W229 ne201
  have Z231 : n0 ≤ h229.size := by rw [W229.size]; exact Z228
  refine Go.via st229 ?_
  refine s_astore X229 hx (hb hby at_141) rfl #[.val (.int i0), .val (.int i1), .val (.int i2), .val (.int i3), .val (.int i4), .val (.int i5), .val (.ref a167), .val (.ref a200), .unset, .unset, .unset] rfl 143 rfl ?_
  obtain ⟨T232, h232, X232, e232, E232, A232, D232, -, st232⟩ := newO X229 hx hZ hown (wd hw 2 _ rfl) (wd hw 3 _ rfl) (wd hw 4 _ rfl) e229 (g := (mkF m 143 #[.val (.int i0), .val (.int i1), .val (.int i2), .val (.int i3), .val (.int i4), .val (.int i5), .val (.ref a167), .val (.ref a200), .unset, .unset, .unset] [])) rfl (hb hby at_143) (by decide) (by decide)
  obtain ⟨a232, g232⟩ : ∃ z, z = h229.size := ⟨_, rfl⟩
  rw [← g232] at A232 D232 st232
  have ne233 : a167 ≠ a232 := by rw [g232]; exact Nat.ne_of_lt F230.lt
  have ne234 : a200 ≠ a232 := by rw [g232]; exact Nat.ne_of_lt A229.lt
  have q235 : n0 ≤ a232 := by rw [g232]; exact Z231
  have F236 := F230.ext E232
  have F237 := A229.ext E232
  have Z238 := Nat.le_trans Z231 E232.1
  have F239 : Fld Z h232 a232 "com/example/twelvefold/twelvefold/FrameTransformMatrix" "elements" "[D" (.null) := D232 (Or.inr (wd hw 12 _ rfl)) (ty := .array .double) (by decide)
  refine Go.via st232 ?_
  show Go p e below _ (T232.setTop (mkF m 146 #[.val (.int i0), .val (.int i1), .val (.int i2), .val (.int i3), .val (.int i4), .val (.int i5), .val (.ref a167), .val (.ref a200), .unset, .unset, .unset] [.ref a232]))
  refine s_dup X232 hx (hb hby at_146) rfl 147 rfl ?_
  refine s_aload X232 hx (hb hby at_147) rfl rfl 149 rfl ?_
  obtain ⟨v240, T240, L240, X240, hQ240, st240⟩ := callInit X232 hx hZ hown rfl (wd hw 5 _ rfl) (wd hw 6 _ rfl) (wd hw 4 _ rfl) (wd hw 7 _ rfl) (by decide) (rm_init l Z a0 hw [] a232 a167 h232 n0 Z238 A232 q235 F239 ) e232 (L := #[.val (.int i0), .val (.int i1), .val (.int i2), .val (.int i3), .val (.int i4), .val (.int i5), .val (.ref a167), .val (.ref a200), .unset, .unset, .unset]) (hb hby at_149) (by rw [hml]; rfl) a232 [.ref a167] [.ref a232] rfl rfl pd_0 rfl 1 (by show 2 * 0 + _ ≤ _; exact Nat.le_of_eq rfl) (by decide) (by decide) (by decide) (by decide)
  obtain ⟨rfl, N240, K240, G240_0⟩ := hQ240
  have M240 := Fr.app N229 N240
  have F241 := F236.keep K240 (ninS ne233 nin0)
  have F242 := F237.keep K240 (ninS ne234 nin0)
  have F243 := A232.keep K240
  have Z244 := Nat.le_trans Z238 K240.1
  have e240 : T240.heap = T240.heap := rfl
  refine Go.via st240 ?_
  show Go p e below _ (T240.setTop (mkF m 152 #[.val (.int i0), .val (.int i1), .val (.int i2), .val (.int i3), .val (.int i4), .val (.int i5), .val (.ref a167), .val (.ref a200), .unset, .unset, .unset] [.ref a232]))
  refine s_astore X240 hx (hb hby at_152) rfl #[.val (.int i0), .val (.int i1), .val (.int i2), .val (.int i3), .val (.int i4), .val (.int i5), .val (.ref a167), .val (.ref a200), .val (.ref a232), .unset, .unset] rfl 154 rfl ?_
  refine s_aload X240 hx (hb hby at_154) rfl rfl 156 rfl ?_
  obtain ⟨v245, T245, L245, X245, hQ245, st245⟩ := callVirt X240 hx hZ hown (wd hw 13 _ rfl) (wd hw 14 _ rfl) (wd hw 16 _ rfl) (wd hw 15 _ rfl) (wd hw 4 _ rfl) (wd hw 17 _ rfl) (by decide) (rm_ta l Z a0 hw [] a232 a167 c167 d170 d173 d176 d179 d182 d185 d189 d193 d197 T240.heap n0 Z244 G240_0 F241) e240 a232 F243 (L := #[.val (.int i0), .val (.int i1), .val (.int i2), .val (.int i3), .val (.int i4), .val (.int i5), .val (.ref a167), .val (.ref a200), .val (.ref a232), .unset, .unset]) (hb hby at_156) (by rw [hml]; rfl) [] [] rfl rfl pd_2 rfl 0 (by show 2 * 0 + _ ≤ _; exact Nat.le_of_eq rfl) (by decide) (by decide) (by decide) (by decide)
  obtain ⟨a245, b245_0, b245_1, b245_2, c245, c245_0, c245_1, c245_2, rfl, N245, K245, g245, g245_0, g245_1, g245_2, i245_0, i245_1, i245_2, j245_0, j245_1, j245_2, A245, A245_0, A245_1, A245_2⟩ := hQ245
  have M245 := Fr.app M240 N245
  have ne246 : a167 ≠ a245 := Nat.ne_of_lt (Nat.lt_of_lt_of_le F241.lt g245)
  have ne247 : a200 ≠ a245 := Nat.ne_of_lt (Nat.lt_of_lt_of_le F242.lt g245)
  have ne248 : a232 ≠ a245 := Nat.ne_of_lt (Nat.lt_of_lt_of_le F243.lt g245)
  have q249 : n0 ≤ a245 := Nat.le_trans Z244 g245
  have ne250 : a167 ≠ b245_0 := Nat.ne_of_lt (Nat.lt_of_lt_of_le F241.lt g245_0)
  have ne251 : a200 ≠ b245_0 := Nat.ne_of_lt (Nat.lt_of_lt_of_le F242.lt g245_0)
  have ne252 : a232 ≠ b245_0 := Nat.ne_of_lt (Nat.lt_of_lt_of_le F243.lt g245_0)
  have q253 : n0 ≤ b245_0 := Nat.le_trans Z244 g245_0
  have ne254 : a167 ≠ b245_1 := Nat.ne_of_lt (Nat.lt_of_lt_of_le F241.lt g245_1)
  have ne255 : a200 ≠ b245_1 := Nat.ne_of_lt (Nat.lt_of_lt_of_le F242.lt g245_1)
  have ne256 : a232 ≠ b245_1 := Nat.ne_of_lt (Nat.lt_of_lt_of_le F243.lt g245_1)
  have q257 : n0 ≤ b245_1 := Nat.le_trans Z244 g245_1
  have ne258 : a167 ≠ b245_2 := Nat.ne_of_lt (Nat.lt_of_lt_of_le F241.lt g245_2)
  have ne259 : a200 ≠ b245_2 := Nat.ne_of_lt (Nat.lt_of_lt_of_le F242.lt g245_2)
  have ne260 : a232 ≠ b245_2 := Nat.ne_of_lt (Nat.lt_of_lt_of_le F243.lt g245_2)
  have q261 : n0 ≤ b245_2 := Nat.le_trans Z244 g245_2
  have F262 := F241.keep K245 nin0
  have F263 := F242.keep K245 nin0
  have F264 := F243.keep K245
  have F265 := G240_0.keep K245 nin0
  have Z266 := Nat.le_trans Z244 K245.1
  have e245 : T245.heap = T245.heap := rfl
  refine Go.via st245 ?_
  show Go p e below _ (T245.setTop (mkF m 159 #[.val (.int i0), .val (.int i1), .val (.int i2), .val (.int i3), .val (.int i4), .val (.int i5), .val (.ref a167), .val (.ref a200), .val (.ref a232), .unset, .unset] [.ref a245]))
  refine s_astore X245 hx (hb hby at_159) rfl #[.val (.int i0), .val (.int i1), .val (.int i2), .val (.int i3), .val (.int i4), .val (.int i5), .val (.ref a167), .val (.ref a200), .val (.ref a232), .val (.ref a245), .unset] rfl 161 rfl ?_
  refine s_aload X245 hx (hb hby at_161) rfl rfl 163 rfl ?_
  obtain ⟨v267, T267, L267, X267, hQ267, st267⟩ := callStat X245 hx hZ hown (wd hw 21 _ rfl) (wd hw 22 _ rfl) (wd hw 23 _ rfl) (wd hw 24 _ rfl) (by decide) (rm_shaped l Z a0 hw [] a245 b245_0 b245_1 b245_2 c245 c245_0 c245_1 c245_2 d170 d173 d176 d179 d182 d185 d189 d193 d197 T245.heap n0 Z266 A245 A245_0 A245_1 A245_2) e245 (L := #[.val (.int i0), .val (.int i1), .val (.int i2), .val (.int i3), .val (.int i4), .val (.int i5), .val (.ref a167), .val (.ref a200), .val (.ref a232), .val (.ref a245), .unset]) (hb hby at_163) (by rw [hml]; rfl) [.ref a245] [] rfl rfl pd_3 rfl 0 (by show 2 * 0 + _ ≤ _; exact Nat.le_of_eq rfl) (by decide) (by decide) (by decide) (by decide)
  obtain ⟨rfl, N267, hh267⟩ := hQ267
  have M267 := Fr.app M245 N267
  refine Go.via st267 ?_
  show Go p e below _ (T267.setTop (mkF m 166 #[.val (.int i0), .val (.int i1), .val (.int i2), .val (.int i3), .val (.int i4), .val (.int i5), .val (.ref a167), .val (.ref a200), .val (.ref a232), .val (.ref a245), .unset] [.int (1 : Int32)]))
  refine s_ifY X267 hx (hb hby at_166) (by decide) 171 (by decide) (by decide) ?_
  refine s_aload X267 hx (hb hby at_171) rfl rfl 173 rfl ?_
  refine s_aload X267 hx (hb hby at_173) rfl rfl 175 rfl ?_
  obtain ⟨v268, T268, L268, X268, hQ268, st268⟩ := callStat X267 hx hZ hown (wd hw 25 _ rfl) (wd hw 26 _ rfl) (wd hw 23 _ rfl) (wd hw 27 _ rfl) (by decide) (rm_matches l Z a0 hw [] a245 b245_0 b245_1 b245_2 c245 c245_0 c245_1 c245_2 a200 c200 d170 d173 d176 d179 d182 d185 d189 d193 d197 d170 d173 d176 d179 d182 d185 d189 d193 d197 T245.heap n0 Z266 A245 A245_0 A245_1 A245_2 F263 (Db.eq Dd170 Dd170 rfl) (Db.eq Dd173 Dd173 rfl) (Db.eq Dd176 Dd176 rfl) (Db.eq Dd179 Dd179 rfl) (Db.eq Dd182 Dd182 rfl) (Db.eq Dd185 Dd185 rfl) (Db.eq Dd189 Dd189 rfl) (Db.eq Dd193 Dd193 rfl) (Db.eq Dd197 Dd197 rfl)) hh267 (L := #[.val (.int i0), .val (.int i1), .val (.int i2), .val (.int i3), .val (.int i4), .val (.int i5), .val (.ref a167), .val (.ref a200), .val (.ref a232), .val (.ref a245), .unset]) (hb hby at_175) (by rw [hml]; rfl) [.ref a245, .ref a200] [] rfl rfl pd_4 rfl 0 (by show 2 * 0 + _ ≤ _; exact Nat.le_of_eq rfl) (by decide) (by decide) (by decide) (by decide)
  obtain ⟨rfl, N268, hh268⟩ := hQ268
  have M268 := Fr.app M267 N268
  refine Go.via st268 ?_
  show Go p e below _ (T268.setTop (mkF m 178 #[.val (.int i0), .val (.int i1), .val (.int i2), .val (.int i3), .val (.int i4), .val (.int i5), .val (.ref a167), .val (.ref a200), .val (.ref a232), .val (.ref a245), .unset] [.int (1 : Int32)]))
  refine s_ifY X268 hx (hb hby at_178) (by decide) 183 (by decide) (by decide) ?_
  refine s_aload X268 hx (hb hby at_183) rfl rfl 185 rfl ?_
  refine s_iconst X268 hx (hb hby at_185) (0 : Int32) rfl 186 rfl ?_
  refine s_aaload X268 hx hZ hh268 A245 rfl (hb hby at_186) (j := (0 : Int32)) 0 (by decide) (.ref b245_0) rfl 187 rfl ?_
  refine s_aload X268 hx (hb hby at_187) rfl rfl 189 rfl ?_
  refine s_iconst X268 hx (hb hby at_189) (1 : Int32) rfl 190 rfl ?_
  refine s_aaload X268 hx hZ hh268 A245 rfl (hb hby at_190) (j := (1 : Int32)) 1 (by decide) (.ref b245_1) rfl 191 rfl ?_
  refine s_acmpN X268 hx (hb hby at_191) rfl rfl (XT.aa_eq_f (fun q => j245_0 (Value.ref.inj q))) 194 rfl ?_
  refine s_aload X268 hx (hb hby at_194) rfl rfl 196 rfl ?_
  refine s_iconst X268 hx (hb hby at_196) (0 : Int32) rfl 197 rfl ?_
  refine s_aaload X268 hx hZ hh268 A245 rfl (hb hby at_197) (j := (0 : Int32)) 0 (by decide) (.ref b245_0) rfl 198 rfl ?_
  refine s_aload X268 hx (hb hby at_198) rfl rfl 200 rfl ?_
  refine s_iconst X268 hx (hb hby at_200) (2 : Int32) rfl 201 rfl ?_
  refine s_aaload X268 hx hZ hh268 A245 rfl (hb hby at_201) (j := (2 : Int32)) 2 (by decide) (.ref b245_2) rfl 202 rfl ?_
  refine s_acmpN X268 hx (hb hby at_202) rfl rfl (XT.aa_eq_f (fun q => j245_1 (Value.ref.inj q))) 205 rfl ?_
  refine s_aload X268 hx (hb hby at_205) rfl rfl 207 rfl ?_
  refine s_iconst X268 hx (hb hby at_207) (1 : Int32) rfl 208 rfl ?_
  refine s_aaload X268 hx hZ hh268 A245 rfl (hb hby at_208) (j := (1 : Int32)) 1 (by decide) (.ref b245_1) rfl 209 rfl ?_
  refine s_aload X268 hx (hb hby at_209) rfl rfl 211 rfl ?_
  refine s_iconst X268 hx (hb hby at_211) (2 : Int32) rfl 212 rfl ?_
  refine s_aaload X268 hx hZ hh268 A245 rfl (hb hby at_212) (j := (2 : Int32)) 2 (by decide) (.ref b245_2) rfl 213 rfl ?_
  refine s_acmpY X268 hx (hb hby at_213) rfl rfl (XT.aa_ne_t (fun q => j245_2 (Value.ref.inj q))) 218 (by decide) (by decide) ?_
  refine s_aload X268 hx (hb hby at_218) rfl rfl 220 rfl ?_
  refine s_iconst X268 hx (hb hby at_220) (0 : Int32) rfl 221 rfl ?_
  refine s_aaload X268 hx hZ hh268 A245 rfl (hb hby at_221) (j := (0 : Int32)) 0 (by decide) (.ref b245_0) rfl 222 rfl ?_
  refine s_iconst X268 hx (hb hby at_222) (0 : Int32) rfl 223 rfl ?_
  refine s_ldc2D X268 hx (hb hby at_223) hZ hown (wd hw 28 _ rfl) 226 rfl ?_
  obtain ⟨T269, h269, X269, e269, W269, A269, st269⟩ := s_dastore X268 hx hZ hh268 A245_0 (hb hby at_226) #[.val (.int i0), .val (.int i1), .val (.int i2), .val (.int i3), .val (.int i4), .val (.int i5), .val (.ref a167), .val (.ref a200), .val (.ref a232), .val (.ref a245), .unset] [] (j := (0 : Int32)) 0 (by decide) (by show 0 < 3; decide) (4598175219545276416 : UInt64) [.double (4598175219545276416 : UInt64), .double d173, .double d176] rfl 227 rfl
  have N269 := Fr.snoc X269 M268 q253
  have F270 := F262.other W269 ne250
  have F271 := F263.other W269 ne251
  have F272 := F264.wr W269
  have F273 := F265.other W269 (Or.inl ne252)
  have F274 := A245.other W269 i245_0
  have F275 := A245_1.other W269 ((j245_0).symm)
  have F276 := A245_2.other W269 ((j245_1).symm)
  have Z277 : n0 ≤ h269.size := by rw [W269.size]; exact Z266
  refine Go.via st269 ?_
  refine s_aload X269 hx (hb hby at_227) rfl rfl 229 rfl ?_
  refine s_iconst X269 hx (hb hby at_229) (1 : Int32) rfl 230 rfl ?_
  refine s_aaload X269 hx hZ e269 F274 rfl (hb hby at_230) (j := (1 : Int32)) 1 (by decide) (.ref b245_1) rfl 231 rfl ?_
  refine s_iconst X269 hx (hb hby at_231) (1 : Int32) rfl 232 rfl ?_
  refine s_ldc2D X269 hx (hb hby at_232) hZ hown (wd hw 28 _ rfl) 235 rfl ?_
  obtain ⟨T278, h278, X278, e278, W278, A278, st278⟩ := s_dastore X269 hx hZ e269 F275 (hb hby at_235) #[.val (.int i0), .val (.int i1), .val (.int i2), .val (.int i3), .val (.int i4), .val (.int i5), .val (.ref a167), .val (.ref a200), .val (.ref a232), .val (.ref a245), .unset] [] (j := (1 : Int32)) 1 (by decide) (by show 1 < 3; decide) (4598175219545276416 : UInt64) [.double d179, .double (4598175219545276416 : UInt64), .double d185] rfl 236 rfl
  have N278 := Fr.snoc X278 N269 q257
  have F279 := F270.other W278 ne254
  have F280 := F271.other W278 ne255
  have F281 := F272.wr W278
  have F282 := F273.other W278 (Or.inl ne256)
  have F283 := F274.other W278 i245_1
  have F284 := A269.other W278 j245_0
  have F285 := F276.other W278 ((j245_2).symm)
  have Z286 : n0 ≤ h278.size := by rw [W278.size]; exact Z277
  refine Go.via st278 ?_
  refine s_aload X278 hx (hb hby at_236) rfl rfl 238 rfl ?_
  refine s_iconst X278 hx (hb hby at_238) (2 : Int32) rfl 239 rfl ?_
  refine s_aaload X278 hx hZ e278 F283 rfl (hb hby at_239) (j := (2 : Int32)) 2 (by decide) (.ref b245_2) rfl 240 rfl ?_
  refine s_iconst X278 hx (hb hby at_240) (2 : Int32) rfl 241 rfl ?_
  refine s_ldc2D X278 hx (hb hby at_241) hZ hown (wd hw 28 _ rfl) 244 rfl ?_
  obtain ⟨T287, h287, X287, e287, W287, A287, st287⟩ := s_dastore X278 hx hZ e278 F285 (hb hby at_244) #[.val (.int i0), .val (.int i1), .val (.int i2), .val (.int i3), .val (.int i4), .val (.int i5), .val (.ref a167), .val (.ref a200), .val (.ref a232), .val (.ref a245), .unset] [] (j := (2 : Int32)) 2 (by decide) (by show 2 < 3; decide) (4598175219545276416 : UInt64) [.double d189, .double d193, .double (4598175219545276416 : UInt64)] rfl 245 rfl
  have N287 := Fr.snoc X287 N278 q261
  have F288 := F279.other W287 ne258
  have F289 := F280.other W287 ne259
  have F290 := F281.wr W287
  have F291 := F282.other W287 (Or.inl ne260)
  have F292 := F283.other W287 i245_2
  have F293 := F284.other W287 j245_1
  have F294 := A278.other W287 j245_2
  have Z295 : n0 ≤ h287.size := by rw [W287.size]; exact Z286
  refine Go.via st287 ?_
  refine s_aload X287 hx (hb hby at_245) rfl rfl 247 rfl ?_
  refine s_iconst X287 hx (hb hby at_247) (0 : Int32) rfl 248 rfl ?_
  refine s_aaload X287 hx hZ e287 F292 rfl (hb hby at_248) (j := (0 : Int32)) 0 (by decide) (.ref b245_0) rfl 249 rfl ?_
  refine s_iconst X287 hx (hb hby at_249) (2 : Int32) rfl 250 rfl ?_
  refine s_ldc2D X287 hx (hb hby at_250) hZ hown (wd hw 28 _ rfl) 253 rfl ?_
  obtain ⟨T296, h296, X296, e296, W296, A296, st296⟩ := s_dastore X287 hx hZ e287 F293 (hb hby at_253) #[.val (.int i0), .val (.int i1), .val (.int i2), .val (.int i3), .val (.int i4), .val (.int i5), .val (.ref a167), .val (.ref a200), .val (.ref a232), .val (.ref a245), .unset] [] (j := (2 : Int32)) 2 (by decide) (by show 2 < 3; decide) (4598175219545276416 : UInt64) [.double (4598175219545276416 : UInt64), .double d173, .double (4598175219545276416 : UInt64)] rfl 254 rfl
  have N296 := Fr.snoc X296 N287 q253
  have F297 := F288.other W296 ne250
  have F298 := F289.other W296 ne251
  have F299 := F290.wr W296
  have F300 := F291.other W296 (Or.inl ne252)
  have F301 := F292.other W296 i245_0
  have F302 := F294.other W296 ((j245_0).symm)
  have F303 := A287.other W296 ((j245_1).symm)
  have Z304 : n0 ≤ h296.size := by rw [W296.size]; exact Z295
  refine Go.via st296 ?_
  refine s_aload X296 hx (hb hby at_254) rfl rfl 256 rfl ?_
  refine s_iconst X296 hx (hb hby at_256) (2 : Int32) rfl 257 rfl ?_
  refine s_aaload X296 hx hZ e296 F301 rfl (hb hby at_257) (j := (2 : Int32)) 2 (by decide) (.ref b245_2) rfl 258 rfl ?_
  refine s_iconst X296 hx (hb hby at_258) (0 : Int32) rfl 259 rfl ?_
  refine s_ldc2D X296 hx (hb hby at_259) hZ hown (wd hw 28 _ rfl) 262 rfl ?_
  obtain ⟨T305, h305, X305, e305, W305, A305, st305⟩ := s_dastore X296 hx hZ e296 F303 (hb hby at_262) #[.val (.int i0), .val (.int i1), .val (.int i2), .val (.int i3), .val (.int i4), .val (.int i5), .val (.ref a167), .val (.ref a200), .val (.ref a232), .val (.ref a245), .unset] [] (j := (0 : Int32)) 0 (by decide) (by show 0 < 3; decide) (4598175219545276416 : UInt64) [.double (4598175219545276416 : UInt64), .double d193, .double (4598175219545276416 : UInt64)] rfl 263 rfl
  have N305 := Fr.snoc X305 N296 q261
  have F306 := F297.other W305 ne258
  have F307 := F298.other W305 ne259
  have F308 := F299.wr W305
  have F309 := F300.other W305 (Or.inl ne260)
  have F310 := F301.other W305 i245_2
  have F311 := A296.other W305 j245_1
  have F312 := F302.other W305 j245_2
  have Z313 : n0 ≤ h305.size := by rw [W305.size]; exact Z304
  refine Go.via st305 ?_
  refine s_aload X305 hx (hb hby at_263) rfl rfl 265 rfl ?_
  obtain ⟨v314, T314, L314, X314, hQ314, st314⟩ := callVirt X305 hx hZ hown (wd hw 13 _ rfl) (wd hw 14 _ rfl) (wd hw 16 _ rfl) (wd hw 15 _ rfl) (wd hw 4 _ rfl) (wd hw 17 _ rfl) (by decide) (rm_ta l Z a0 hw [] a232 a167 c167 d170 d173 d176 d179 d182 d185 d189 d193 d197 h305 n0 Z313 F309 F306) e305 a232 F308 (L := #[.val (.int i0), .val (.int i1), .val (.int i2), .val (.int i3), .val (.int i4), .val (.int i5), .val (.ref a167), .val (.ref a200), .val (.ref a232), .val (.ref a245), .unset]) (hb hby at_265) (by rw [hml]; rfl) [] [] rfl rfl pd_2 rfl 0 (by show 2 * 0 + _ ≤ _; exact Nat.le_of_eq rfl) (by decide) (by decide) (by decide) (by decide)
  obtain ⟨a314, b314_0, b314_1, b314_2, c314, c314_0, c314_1, c314_2, rfl, N314, K314, g314, g314_0, g314_1, g314_2, i314_0, i314_1, i314_2, j314_0, j314_1, j314_2, A314, A314_0, A314_1, A314_2⟩ := hQ314
  have M314 := Fr.app N305 N314
  have ne315 : a167 ≠ a314 := Nat.ne_of_lt (Nat.lt_of_lt_of_le F306.lt g314)
  have ne316 : a200 ≠ a314 := Nat.ne_of_lt (Nat.lt_of_lt_of_le F307.lt g314)
  have ne317 : a232 ≠ a314 := Nat.ne_of_lt (Nat.lt_of_lt_of_le F308.lt g314)
  have ne318 : a245 ≠ a314 := Nat.ne_of_lt (Nat.lt_of_lt_of_le F310.lt g314)
  have ne319 : b245_0 ≠ a314 := Nat.ne_of_lt (Nat.lt_of_lt_of_le F311.lt g314)
  have ne320 : b245_1 ≠ a314 := Nat.ne_of_lt (Nat.lt_of_lt_of_le F312.lt g314)
  have ne321 : b245_2 ≠ a314 := Nat.ne_of_lt (Nat.lt_of_lt_of_le A305.lt g314)
  have q322 : n0 ≤ a314 := Nat.le_trans Z313 g314
  have ne323 : a167 ≠ b314_0 := Nat.ne_of_lt (Nat.lt_of_lt_of_le F306.lt g314_0)
  have ne324 : a200 ≠ b314_0 := Nat.ne_of_lt (Nat.lt_of_lt_of_le F307.lt g314_0)
  have ne325 : a232 ≠ b314_0 := Nat.ne_of_lt (Nat.lt_of_lt_of_le F308.lt g314_0)
  have ne326 : a245 ≠ b314_0 := Nat.ne_of_lt (Nat.lt_of_lt_of_le F310.lt g314_0)
  have ne327 : b245_0 ≠ b314_0 := Nat.ne_of_lt (Nat.lt_of_lt_of_le F311.lt g314_0)
  have ne328 : b245_1 ≠ b314_0 := Nat.ne_of_lt (Nat.lt_of_lt_of_le F312.lt g314_0)
  have ne329 : b245_2 ≠ b314_0 := Nat.ne_of_lt (Nat.lt_of_lt_of_le A305.lt g314_0)
  have q330 : n0 ≤ b314_0 := Nat.le_trans Z313 g314_0
  have ne331 : a167 ≠ b314_1 := Nat.ne_of_lt (Nat.lt_of_lt_of_le F306.lt g314_1)
  have ne332 : a200 ≠ b314_1 := Nat.ne_of_lt (Nat.lt_of_lt_of_le F307.lt g314_1)
  have ne333 : a232 ≠ b314_1 := Nat.ne_of_lt (Nat.lt_of_lt_of_le F308.lt g314_1)
  have ne334 : a245 ≠ b314_1 := Nat.ne_of_lt (Nat.lt_of_lt_of_le F310.lt g314_1)
  have ne335 : b245_0 ≠ b314_1 := Nat.ne_of_lt (Nat.lt_of_lt_of_le F311.lt g314_1)
  have ne336 : b245_1 ≠ b314_1 := Nat.ne_of_lt (Nat.lt_of_lt_of_le F312.lt g314_1)
  have ne337 : b245_2 ≠ b314_1 := Nat.ne_of_lt (Nat.lt_of_lt_of_le A305.lt g314_1)
  have q338 : n0 ≤ b314_1 := Nat.le_trans Z313 g314_1
  have ne339 : a167 ≠ b314_2 := Nat.ne_of_lt (Nat.lt_of_lt_of_le F306.lt g314_2)
  have ne340 : a200 ≠ b314_2 := Nat.ne_of_lt (Nat.lt_of_lt_of_le F307.lt g314_2)
  have ne341 : a232 ≠ b314_2 := Nat.ne_of_lt (Nat.lt_of_lt_of_le F308.lt g314_2)
  have ne342 : a245 ≠ b314_2 := Nat.ne_of_lt (Nat.lt_of_lt_of_le F310.lt g314_2)
  have ne343 : b245_0 ≠ b314_2 := Nat.ne_of_lt (Nat.lt_of_lt_of_le F311.lt g314_2)
  have ne344 : b245_1 ≠ b314_2 := Nat.ne_of_lt (Nat.lt_of_lt_of_le F312.lt g314_2)
  have ne345 : b245_2 ≠ b314_2 := Nat.ne_of_lt (Nat.lt_of_lt_of_le A305.lt g314_2)
  have q346 : n0 ≤ b314_2 := Nat.le_trans Z313 g314_2
  have F347 := F306.keep K314 nin0
  have F348 := F307.keep K314 nin0
  have F349 := F308.keep K314
  have F350 := F309.keep K314 nin0
  have F351 := F310.keep K314 nin0
  have F352 := F311.keep K314 nin0
  have F353 := F312.keep K314 nin0
  have F354 := A305.keep K314 nin0
  have Z355 := Nat.le_trans Z313 K314.1
  have e314 : T314.heap = T314.heap := rfl
  refine Go.via st314 ?_
  show Go p e below _ (T314.setTop (mkF m 268 #[.val (.int i0), .val (.int i1), .val (.int i2), .val (.int i3), .val (.int i4), .val (.int i5), .val (.ref a167), .val (.ref a200), .val (.ref a232), .val (.ref a245), .unset] [.ref a314]))
  refine s_astore X314 hx (hb hby at_268) rfl #[.val (.int i0), .val (.int i1), .val (.int i2), .val (.int i3), .val (.int i4), .val (.int i5), .val (.ref a167), .val (.ref a200), .val (.ref a232), .val (.ref a245), .val (.ref a314)] rfl 270 rfl ?_
  refine s_aload X314 hx (hb hby at_270) rfl rfl 272 rfl ?_
  obtain ⟨v356, T356, L356, X356, hQ356, st356⟩ := callStat X314 hx hZ hown (wd hw 21 _ rfl) (wd hw 22 _ rfl) (wd hw 23 _ rfl) (wd hw 24 _ rfl) (by decide) (rm_shaped l Z a0 hw [] a314 b314_0 b314_1 b314_2 c314 c314_0 c314_1 c314_2 d170 d173 d176 d179 d182 d185 d189 d193 d197 T314.heap n0 Z355 A314 A314_0 A314_1 A314_2) e314 (L := #[.val (.int i0), .val (.int i1), .val (.int i2), .val (.int i3), .val (.int i4), .val (.int i5), .val (.ref a167), .val (.ref a200), .val (.ref a232), .val (.ref a245), .val (.ref a314)]) (hb hby at_272) (by rw [hml]; rfl) [.ref a314] [] rfl rfl pd_3 rfl 0 (by show 2 * 0 + _ ≤ _; exact Nat.le_of_eq rfl) (by decide) (by decide) (by decide) (by decide)
  obtain ⟨rfl, N356, hh356⟩ := hQ356
  have M356 := Fr.app M314 N356
  refine Go.via st356 ?_
  show Go p e below _ (T356.setTop (mkF m 275 #[.val (.int i0), .val (.int i1), .val (.int i2), .val (.int i3), .val (.int i4), .val (.int i5), .val (.ref a167), .val (.ref a200), .val (.ref a232), .val (.ref a245), .val (.ref a314)] [.int (1 : Int32)]))
  refine s_ifY X356 hx (hb hby at_275) (by decide) 280 (by decide) (by decide) ?_
  refine s_aload X356 hx (hb hby at_280) rfl rfl 282 rfl ?_
  refine s_aload X356 hx (hb hby at_282) rfl rfl 284 rfl ?_
  refine s_acmpN X356 hx (hb hby at_284) rfl rfl (XT.aa_eq_f (fun q => (ne318).symm (Value.ref.inj q))) 287 rfl ?_
  refine s_aload X356 hx (hb hby at_287) rfl rfl 289 rfl ?_
  refine s_iconst X356 hx (hb hby at_289) (0 : Int32) rfl 290 rfl ?_
  refine s_aaload X356 hx hZ hh356 A314 rfl (hb hby at_290) (j := (0 : Int32)) 0 (by decide) (.ref b314_0) rfl 291 rfl ?_
  refine s_aload X356 hx (hb hby at_291) rfl rfl 293 rfl ?_
  refine s_iconst X356 hx (hb hby at_293) (0 : Int32) rfl 294 rfl ?_
  refine s_aaload X356 hx hZ hh356 F351 rfl (hb hby at_294) (j := (0 : Int32)) 0 (by decide) (.ref b245_0) rfl 295 rfl ?_
  refine s_acmpN X356 hx (hb hby at_295) rfl rfl (XT.aa_eq_f (fun q => (ne327).symm (Value.ref.inj q))) 298 rfl ?_
  refine s_aload X356 hx (hb hby at_298) rfl rfl 300 rfl ?_
  refine s_iconst X356 hx (hb hby at_300) (1 : Int32) rfl 301 rfl ?_
  refine s_aaload X356 hx hZ hh356 A314 rfl (hb hby at_301) (j := (1 : Int32)) 1 (by decide) (.ref b314_1) rfl 302 rfl ?_
  refine s_aload X356 hx (hb hby at_302) rfl rfl 304 rfl ?_
  refine s_iconst X356 hx (hb hby at_304) (1 : Int32) rfl 305 rfl ?_
  refine s_aaload X356 hx hZ hh356 F351 rfl (hb hby at_305) (j := (1 : Int32)) 1 (by decide) (.ref b245_1) rfl 306 rfl ?_
  refine s_acmpN X356 hx (hb hby at_306) rfl rfl (XT.aa_eq_f (fun q => (ne336).symm (Value.ref.inj q))) 309 rfl ?_
  refine s_aload X356 hx (hb hby at_309) rfl rfl 311 rfl ?_
  refine s_iconst X356 hx (hb hby at_311) (2 : Int32) rfl 312 rfl ?_
  refine s_aaload X356 hx hZ hh356 A314 rfl (hb hby at_312) (j := (2 : Int32)) 2 (by decide) (.ref b314_2) rfl 313 rfl ?_
  refine s_aload X356 hx (hb hby at_313) rfl rfl 315 rfl ?_
  refine s_iconst X356 hx (hb hby at_315) (2 : Int32) rfl 316 rfl ?_
  refine s_aaload X356 hx hZ hh356 F351 rfl (hb hby at_316) (j := (2 : Int32)) 2 (by decide) (.ref b245_2) rfl 317 rfl ?_
  refine s_acmpY X356 hx (hb hby at_317) rfl rfl (XT.aa_ne_t (fun q => (ne345).symm (Value.ref.inj q))) 322 (by decide) (by decide) ?_
  refine s_aload X356 hx (hb hby at_322) rfl rfl 324 rfl ?_
  obtain ⟨T357, X357, e357, st357⟩ := getF X356 hx hZ hown (host := "") (Or.inl (wd hw 29 _ rfl)) Via.refl hh356 F350 (g := (mkF m 324 #[.val (.int i0), .val (.int i1), .val (.int i2), .val (.int i3), .val (.int i4), .val (.int i5), .val (.ref a167), .val (.ref a200), .val (.ref a232), .val (.ref a245), .val (.ref a314)] [.ref a232])) rfl rfl (hb hby at_324)
  refine Go.via st357 ?_
  show Go p e below _ (T357.setTop (mkF m 327 #[.val (.int i0), .val (.int i1), .val (.int i2), .val (.int i3), .val (.int i4), .val (.int i5), .val (.ref a167), .val (.ref a200), .val (.ref a232), .val (.ref a245), .val (.ref a314)] [.ref a167]))
  refine s_iconst X357 hx (hb hby at_327) (0 : Int32) rfl 328 rfl ?_
  refine s_daload X357 hx hZ e357 F347 (hb hby at_328) (j := (0 : Int32)) 0 (by decide) (.double d170) rfl 329 rfl ?_
  refine s_aload X357 hx (hb hby at_329) rfl rfl 331 rfl ?_
  refine s_iconst X357 hx (hb hby at_331) (0 : Int32) rfl 332 rfl ?_
  refine s_daload X357 hx hZ e357 F348 (hb hby at_332) (j := (0 : Int32)) 0 (by decide) (.double d170) rfl 333 rfl ?_
  refine s_dcmp X357 hx (hb hby at_333) (0 : Int32) (by rw [show FP.dcmp d170 d170 = some .eq from (Db.eq Dd170 Dd170 rfl)]; rfl) 334 rfl ?_
  refine s_ifN X357 hx (hb hby at_334) (by decide) 337 rfl ?_
  refine s_aload X357 hx (hb hby at_337) rfl rfl 339 rfl ?_
  obtain ⟨T358, X358, e358, st358⟩ := getF X357 hx hZ hown (host := "") (Or.inl (wd hw 29 _ rfl)) Via.refl e357 F350 (g := (mkF m 339 #[.val (.int i0), .val (.int i1), .val (.int i2), .val (.int i3), .val (.int i4), .val (.int i5), .val (.ref a167), .val (.ref a200), .val (.ref a232), .val (.ref a245), .val (.ref a314)] [.ref a232])) rfl rfl (hb hby at_339)
  refine Go.via st358 ?_
  show Go p e below _ (T358.setTop (mkF m 342 #[.val (.int i0), .val (.int i1), .val (.int i2), .val (.int i3), .val (.int i4), .val (.int i5), .val (.ref a167), .val (.ref a200), .val (.ref a232), .val (.ref a245), .val (.ref a314)] [.ref a167]))
  refine s_iconst X358 hx (hb hby at_342) (4 : Int32) rfl 343 rfl ?_
  refine s_daload X358 hx hZ e358 F347 (hb hby at_343) (j := (4 : Int32)) 4 (by decide) (.double d182) rfl 344 rfl ?_
  refine s_aload X358 hx (hb hby at_344) rfl rfl 346 rfl ?_
  refine s_iconst X358 hx (hb hby at_346) (4 : Int32) rfl 347 rfl ?_
  refine s_daload X358 hx hZ e358 F348 (hb hby at_347) (j := (4 : Int32)) 4 (by decide) (.double d182) rfl 348 rfl ?_
  refine s_dcmp X358 hx (hb hby at_348) (0 : Int32) (by rw [show FP.dcmp d182 d182 = some .eq from (Db.eq Dd182 Dd182 rfl)]; rfl) 349 rfl ?_
  refine s_ifN X358 hx (hb hby at_349) (by decide) 352 rfl ?_
  refine s_aload X358 hx (hb hby at_352) rfl rfl 354 rfl ?_
  obtain ⟨T359, X359, e359, st359⟩ := getF X358 hx hZ hown (host := "") (Or.inl (wd hw 29 _ rfl)) Via.refl e358 F350 (g := (mkF m 354 #[.val (.int i0), .val (.int i1), .val (.int i2), .val (.int i3), .val (.int i4), .val (.int i5), .val (.ref a167), .val (.ref a200), .val (.ref a232), .val (.ref a245), .val (.ref a314)] [.ref a232])) rfl rfl (hb hby at_354)
  refine Go.via st359 ?_
  show Go p e below _ (T359.setTop (mkF m 357 #[.val (.int i0), .val (.int i1), .val (.int i2), .val (.int i3), .val (.int i4), .val (.int i5), .val (.ref a167), .val (.ref a200), .val (.ref a232), .val (.ref a245), .val (.ref a314)] [.ref a167]))
  refine s_bipush X359 hx (hb hby at_357) (8 : Int32) rfl 359 rfl ?_
  refine s_daload X359 hx hZ e359 F347 (hb hby at_359) (j := (8 : Int32)) 8 (by decide) (.double d197) rfl 360 rfl ?_
  refine s_aload X359 hx (hb hby at_360) rfl rfl 362 rfl ?_
  refine s_bipush X359 hx (hb hby at_362) (8 : Int32) rfl 364 rfl ?_
  refine s_daload X359 hx hZ e359 F348 (hb hby at_364) (j := (8 : Int32)) 8 (by decide) (.double d197) rfl 365 rfl ?_
  refine s_dcmp X359 hx (hb hby at_365) (0 : Int32) (by rw [show FP.dcmp d197 d197 = some .eq from (Db.eq Dd197 Dd197 rfl)]; rfl) 366 rfl ?_
  refine s_ifN X359 hx (hb hby at_366) (by decide) 369 rfl ?_
  refine s_aload X359 hx (hb hby at_369) rfl rfl 371 rfl ?_
  obtain ⟨T360, X360, e360, st360⟩ := getF X359 hx hZ hown (host := "") (Or.inl (wd hw 29 _ rfl)) Via.refl e359 F350 (g := (mkF m 371 #[.val (.int i0), .val (.int i1), .val (.int i2), .val (.int i3), .val (.int i4), .val (.int i5), .val (.ref a167), .val (.ref a200), .val (.ref a232), .val (.ref a245), .val (.ref a314)] [.ref a232])) rfl rfl (hb hby at_371)
  refine Go.via st360 ?_
  show Go p e below _ (T360.setTop (mkF m 374 #[.val (.int i0), .val (.int i1), .val (.int i2), .val (.int i3), .val (.int i4), .val (.int i5), .val (.ref a167), .val (.ref a200), .val (.ref a232), .val (.ref a245), .val (.ref a314)] [.ref a167]))
  refine s_iconst X360 hx (hb hby at_374) (2 : Int32) rfl 375 rfl ?_
  refine s_daload X360 hx hZ e360 F347 (hb hby at_375) (j := (2 : Int32)) 2 (by decide) (.double d176) rfl 376 rfl ?_
  refine s_aload X360 hx (hb hby at_376) rfl rfl 378 rfl ?_
  refine s_iconst X360 hx (hb hby at_378) (2 : Int32) rfl 379 rfl ?_
  refine s_daload X360 hx hZ e360 F348 (hb hby at_379) (j := (2 : Int32)) 2 (by decide) (.double d176) rfl 380 rfl ?_
  refine s_dcmp X360 hx (hb hby at_380) (0 : Int32) (by rw [show FP.dcmp d176 d176 = some .eq from (Db.eq Dd176 Dd176 rfl)]; rfl) 381 rfl ?_
  refine s_ifN X360 hx (hb hby at_381) (by decide) 384 rfl ?_
  refine s_aload X360 hx (hb hby at_384) rfl rfl 386 rfl ?_
  obtain ⟨T361, X361, e361, st361⟩ := getF X360 hx hZ hown (host := "") (Or.inl (wd hw 29 _ rfl)) Via.refl e360 F350 (g := (mkF m 386 #[.val (.int i0), .val (.int i1), .val (.int i2), .val (.int i3), .val (.int i4), .val (.int i5), .val (.ref a167), .val (.ref a200), .val (.ref a232), .val (.ref a245), .val (.ref a314)] [.ref a232])) rfl rfl (hb hby at_386)
  refine Go.via st361 ?_
  show Go p e below _ (T361.setTop (mkF m 389 #[.val (.int i0), .val (.int i1), .val (.int i2), .val (.int i3), .val (.int i4), .val (.int i5), .val (.ref a167), .val (.ref a200), .val (.ref a232), .val (.ref a245), .val (.ref a314)] [.ref a167]))
  refine s_bipush X361 hx (hb hby at_389) (6 : Int32) rfl 391 rfl ?_
  refine s_daload X361 hx hZ e361 F347 (hb hby at_391) (j := (6 : Int32)) 6 (by decide) (.double d189) rfl 392 rfl ?_
  refine s_aload X361 hx (hb hby at_392) rfl rfl 394 rfl ?_
  refine s_bipush X361 hx (hb hby at_394) (6 : Int32) rfl 396 rfl ?_
  refine s_daload X361 hx hZ e361 F348 (hb hby at_396) (j := (6 : Int32)) 6 (by decide) (.double d189) rfl 397 rfl ?_
  refine s_dcmp X361 hx (hb hby at_397) (0 : Int32) (by rw [show FP.dcmp d189 d189 = some .eq from (Db.eq Dd189 Dd189 rfl)]; rfl) 398 rfl ?_
  refine s_ifY X361 hx (hb hby at_398) (by decide) 403 (by decide) (by decide) ?_
  refine s_aload X361 hx (hb hby at_403) rfl rfl 405 rfl ?_
  refine s_aload X361 hx (hb hby at_405) rfl rfl 407 rfl ?_
  obtain ⟨v362, T362, L362, X362, hQ362, st362⟩ := callStat X361 hx hZ hown (wd hw 25 _ rfl) (wd hw 26 _ rfl) (wd hw 23 _ rfl) (wd hw 27 _ rfl) (by decide) (rm_matches l Z a0 hw [] a314 b314_0 b314_1 b314_2 c314 c314_0 c314_1 c314_2 a200 c200 d170 d173 d176 d179 d182 d185 d189 d193 d197 d170 d173 d176 d179 d182 d185 d189 d193 d197 T314.heap n0 Z355 A314 A314_0 A314_1 A314_2 F348 (Db.eq Dd170 Dd170 rfl) (Db.eq Dd173 Dd173 rfl) (Db.eq Dd176 Dd176 rfl) (Db.eq Dd179 Dd179 rfl) (Db.eq Dd182 Dd182 rfl) (Db.eq Dd185 Dd185 rfl) (Db.eq Dd189 Dd189 rfl) (Db.eq Dd193 Dd193 rfl) (Db.eq Dd197 Dd197 rfl)) e361 (L := #[.val (.int i0), .val (.int i1), .val (.int i2), .val (.int i3), .val (.int i4), .val (.int i5), .val (.ref a167), .val (.ref a200), .val (.ref a232), .val (.ref a245), .val (.ref a314)]) (hb hby at_407) (by rw [hml]; rfl) [.ref a314, .ref a200] [] rfl rfl pd_4 rfl 0 (by show 2 * 0 + _ ≤ _; exact Nat.le_of_eq rfl) (by decide) (by decide) (by decide) (by decide)
  obtain ⟨rfl, N362, hh362⟩ := hQ362
  have M362 := Fr.app M356 N362
  refine Go.via st362 ?_
  show Go p e below _ (T362.setTop (mkF m 410 #[.val (.int i0), .val (.int i1), .val (.int i2), .val (.int i3), .val (.int i4), .val (.int i5), .val (.ref a167), .val (.ref a200), .val (.ref a232), .val (.ref a245), .val (.ref a314)] [.int (1 : Int32)]))
  exact retZ X362 hx hlk hret (hb hby at_410) (by decide) hh362 ⟨rfl, M362⟩ (by decide) (by decide)
set_option maxRecDepth 65536 in
set_option maxHeartbeats 40000000 in
theorem comes_1 {Post : Tables → Env → Array Value → State → Outcome → State → Prop} (hpost : ∀ tb e args s v u, (limb_1_1.after args s (.returned v) u = true ∧ limb_1_2.after args s (.returned v) u = true ∧ True) → FrameEnd s (.returned v) u (Jvm.fieldLocs frame_1_writes args s ++ Jvm.arrayLocs frame_1_arrays args s ++ Jvm.staticLocs frame_1_statics s) 32 192 → Post tb e args s (.returned v) u) :
    ArmFor flags0 classFile x code maxLocals ret World_1 tables_1 room_1 Calls_1 rest_1 Pre_1 Post := by
  intro l hfl _ _ p e ha hc hk s m args below hf hA hF happ hP
  obtain ⟨hcalls, hrest, hpre⟩ := hP
  obtain ⟨-, -, -, hnamed, -, -, -, hat⟩ := (Spec.applies_iff hf).mp happ
  obtain ⟨hg, hn⟩ := and_e (Cond.before_iff.mp (show (Jvm.Cond.and given_1 narrow_1).before args s = true from hpre))
  obtain ⟨hg0, hg1⟩ := and_e hg
  obtain ⟨w0, w1, w2, w3, w4, w5, rfl⟩ : ∃ w0 w1 w2 w3 w4 w5 : Value, args = #[w0, w1, w2, w3, w4, w5] := by
    have hs : args.size = 6 := by simpa [Cond.value, given_1] using hg0
    obtain ⟨L⟩ := args
    match L, hs with
    | [w0, w1, w2, w3, w4, w5], _ => exact ⟨w0, w1, w2, w3, w4, w5, rfl⟩
  have hw := fun d (hd : d ∈ tables_1) => atoms_spec (ws := Jvm.Cond.code x code maxLocals ret :: tables_1) hat d (List.mem_cons_of_mem _ hd)
  obtain ⟨ga0, hg2⟩ := and_e hg1
  obtain ⟨ga1, hg3⟩ := and_e hg2
  obtain ⟨ga2, hg4⟩ := and_e hg3
  obtain ⟨ga3, hg5⟩ := and_e hg4
  obtain ⟨ga4, hg6⟩ := and_e hg5
  have ga5 := hg6
  obtain ⟨i0, ei0⟩ := is_v ga0
  obtain rfl : w0 = .int i0 := Option.some.inj ei0
  obtain ⟨i1, ei1⟩ := is_v ga1
  obtain rfl : w1 = .int i1 := Option.some.inj ei1
  obtain ⟨i2, ei2⟩ := is_v ga2
  obtain rfl : w2 = .int i2 := Option.some.inj ei2
  obtain ⟨i3, ei3⟩ := is_v ga3
  obtain rfl : w3 = .int i3 := Option.some.inj ei3
  obtain ⟨i4, ei4⟩ := is_v ga4
  obtain rfl : w4 = .int i4 := Option.some.inj ei4
  obtain ⟨i5, ei5⟩ := is_v ga5
  obtain rfl : w5 = .int i5 := Option.some.inj ei5
  obtain ⟨n, o, h1, h2, h3, _, L, rfl, ⟨rfl, N⟩, hq⟩ := rm_law l s _ hw tables_1 i0 i1 i2 i3 i4 i5 s.heap s.heap.size (Nat.le_refl _) p e ha hc hk s m _ below hf ((Spec.applies_iff_loose hf).mp happ).1 ⟨rfl, State.Warmed39.refl s, rfl⟩ trivial
  refine ⟨n, _, h1, h2, h3, hpost _ _ _ _ _ _ ⟨Cond.after_iff.mpr rfl, Cond.after_iff.mpr (eq_i res_at (Term.int_eval (1)) rfl), trivial⟩ ⟨hq.1, hq.2.1, (hq.2.2.sift fun y hy => Or.inr (N y hy)).mono (by decide) (by decide)⟩⟩
theorem main_1_1 : Claimed_1_1 := comes_1 fun _ _ _ _ _ _ h hF => ⟨h.1, hF⟩
theorem main_1_2 : Claimed_1_2 := comes_1 fun _ _ _ _ _ _ h hF => ⟨h.2.1, hF⟩
end Jvm.Pilot.@@N@@
namespace Jvm.Pilot.@@N@@
open Jvm Jvm.ClassFile Sem Op Lib Jvm.Free Jvm.Stand Jvm.Pilot.@@N@@.Jvm.D
/-! MADE BY PROGRAM (witnessworld.py) out of the Statement's table words and the real class files: 11 classes; the members and pool entries that the words name. The judged class is class 1, her method 3. -/
namespace start1
open Jvm.ClassFile
def u (s : String) : CpInfo := .utf8 (stringToUtf16 s)
/-- a pool by its gaps: so many unusable entries, then the entry; so many at the end -/
def gap : Nat → List CpInfo → List CpInfo
  | 0, r => r
  | n + 1, r => .unusable :: gap n r
def poolList (es : List (Nat × CpInfo)) (last : Nat) : List CpInfo := es.foldr (fun e r => gap e.1 (e.2 :: r)) (gap last [])
def pool (es : List (Nat × CpInfo)) (last : Nat) : Array CpInfo := ⟨poolList es last⟩
def fileOf (pool : Array CpInfo) (this : Nat) (attrs : Array Attribute := #[]) (ms : Array MethodInfo := #[]) (fl : Nat := 33) (sup : Nat := 0) (ifs : Array Nat := #[]) (fds : Array FieldInfo := #[]) : ClassFile where
  minorVersion := 0
  majorVersion := 65
  constantPool := pool
  accessFlags := fl
  thisClass := this
  superClass := sup
  interfaces := ifs
  fields := fds
  methods := ms
  attributes := attrs
def plain (name : String) (sup : Option ClassId) : Class where
  name := name
  kind := .ordinary
  loader := none
  accessFlags := 33
  super := sup
  interfaces := #[]
  cf := none
  fields := #[]
  methods := #[]
  instanceTypes := #[]
  staticTypes := #[]
  resolved := #[]
  callSites := []
  init := .initialized
  statics := none
  mirror := none

def pool0 : Array CpInfo := pool [(5, u "<init>"), (0, u "()V"), (1, .class_ 10), (1, u "java/lang/Object")] 113

def k0c0 : Code := { maxStack := 0, maxLocals := 1, code := object_method_1_code, exceptionTable := #[], attributes := #[] }
def k0m0 : Method := { name := "<init>", desc := "()V", sig := { parameters := [], returnType := none }, accessFlags := 1, code := some k0c0 }
/-- java/lang/Object -/
def k0 : Class := { plain "java/lang/Object" none with
  accessFlags := 33
  interfaces := #[]
  cf := some (fileOf pool0 8 #[] #[{ accessFlags := 1, nameIndex := 5, descriptorIndex := 6, attributes := #[] }] 33 0 #[] #[])
  fields := #[]
  methods := #[k0m0]
  instanceTypes := #[]
  staticTypes := #[]
  resolved := Array.replicate 124 none
  statics := none }

def pool1 : Array CpInfo := pool [(2, .class_ 4), (1, u "java/lang/Object"), (0, u "<init>"), (0, u "()V"), (0, .double 4602678819172646912), (1, .class_ 10), (0, u "com/example/twelvefold/twelvefold/FrameTransformMatrix"), (0, .methodref 9 12), (0, .nameAndType 5 13), (0, u "([D)V"), (0, .methodref 9 15), (0, .nameAndType 16 17), (0, u "toArray"), (0, u "()[[D"), (0, .methodref 19 20), (0, .class_ 21), (0, .nameAndType 22 23), (0, u "com/example/twelvefold/twelvefold/FrameTransformMatrixToArrayPinLaw"), (0, u "shaped"), (0, u "([[D)Z"), (0, .methodref 19 25), (0, .nameAndType 26 27), (0, u "matches"), (0, u "([[D[D)Z"), (0, .double 4598175219545276416), (1, .fieldref 9 31), (0, .nameAndType 32 33), (0, u "elements"), (0, u "[D"), (3, u "law"), (0, u "(IIIIII)Z")] 5

def k1m0 : Method := { name := "<init>", desc := "()V", sig := { parameters := [], returnType := none }, accessFlags := 1, code := none }
def k1c1 : Code := { maxStack := 2, maxLocals := 1, code := method_2_code, exceptionTable := #[], attributes := #[] }
def k1m1 : Method := { name := "shaped", desc := "([[D)Z", sig := { parameters := [(.array (.array .double))], returnType := some .boolean }, accessFlags := 10, code := some k1c1 }
def k1c2 : Code := { maxStack := 4, maxLocals := 2, code := method_3_code, exceptionTable := #[], attributes := #[] }
def k1m2 : Method := { name := "matches", desc := "([[D[D)Z", sig := { parameters := [(.array (.array .double)), (.array .double)], returnType := some .boolean }, accessFlags := 10, code := some k1c2 }
def k1c3 : Code := { maxStack := 7, maxLocals := 11, code := code, exceptionTable := #[], attributes := #[] }
def k1m3 : Method := { name := "law", desc := "(IIIIII)Z", sig := { parameters := [.int, .int, .int, .int, .int, .int], returnType := some .boolean }, accessFlags := 9, code := some k1c3 }
/-- com/example/twelvefold/twelvefold/FrameTransformMatrixToArrayPinLaw -/
def k1 : Class := { plain "com/example/twelvefold/twelvefold/FrameTransformMatrixToArrayPinLaw" (some 0) with
  accessFlags := 49
  interfaces := #[]
  cf := some (fileOf pool1 19 #[] #[{ accessFlags := 1, nameIndex := 5, descriptorIndex := 6, attributes := #[] }, { accessFlags := 10, nameIndex := 22, descriptorIndex := 23, attributes := #[] }, { accessFlags := 10, nameIndex := 26, descriptorIndex := 27, attributes := #[] }, { accessFlags := 9, nameIndex := 37, descriptorIndex := 38, attributes := #[] }] 49 2 #[] #[])
  fields := #[]
  methods := #[k1m0, k1m1, k1m2, k1m3]
  instanceTypes := #[]
  staticTypes := #[]
  resolved := Array.replicate 44 none
  statics := none }

def pool2 : Array CpInfo := pool [(1, .methodref 2 3), (0, .class_ 4), (0, .nameAndType 5 6), (0, u "java/lang/Object"), (0, u "<init>"), (0, u "()V"), (0, .fieldref 8 9), (0, .class_ 10), (0, .nameAndType 11 12), (0, u "com/example/twelvefold/twelvefold/FrameTransformMatrix"), (0, u "elements"), (0, u "[D"), (17, u "([D)V"), (14, .class_ 12), (21, u "TOLERANCE"), (0, u "D"), (7, u "toArray"), (0, u "()[[D")] 23

def k2c0 : Code := { maxStack := 2, maxLocals := 2, code := prog_6_method_1_code, exceptionTable := #[], attributes := #[] }
def k2m0 : Method := { name := "<init>", desc := "([D)V", sig := { parameters := [(.array .double)], returnType := none }, accessFlags := 0, code := some k2c0 }
def k2c1 : Code := { maxStack := 8, maxLocals := 2, code := prog_6_method_7_code, exceptionTable := #[], attributes := #[] }
def k2m1 : Method := { name := "toArray", desc := "()[[D", sig := { parameters := [], returnType := some (.array (.array .double)) }, accessFlags := 1, code := some k2c1 }
/-- com/example/twelvefold/twelvefold/FrameTransformMatrix -/
def k2 : Class := { plain "com/example/twelvefold/twelvefold/FrameTransformMatrix" (some 0) with
  accessFlags := 49
  interfaces := #[]
  cf := some (fileOf pool2 8 #[] #[{ accessFlags := 0, nameIndex := 5, descriptorIndex := 30, attributes := #[] }, { accessFlags := 1, nameIndex := 76, descriptorIndex := 77, attributes := #[] }] 49 2 #[] #[{ accessFlags := 26, nameIndex := 67, descriptorIndex := 68, attributes := #[] }, { accessFlags := 16, nameIndex := 11, descriptorIndex := 12, attributes := #[] }])
  fields := #[{ name := "TOLERANCE", type := .double, accessFlags := 26, slot := 0, constantValue := 0 }, { name := "elements", type := (.array .double), accessFlags := 16, slot := 0, constantValue := 0 }]
  methods := #[k2m0, k2m1]
  instanceTypes := #[(.array .double)]
  staticTypes := #[.double]
  resolved := Array.replicate 101 none
  statics := none }

def pool3 : Array CpInfo := pool [(1, u "java/lang/Cloneable"), (0, .class_ 1), (0, u "java/lang/Object"), (0, .class_ 3)] 3

/-- java/lang/Cloneable -/
def k3 : Class := { plain "java/lang/Cloneable" (some 0) with
  accessFlags := 1537
  interfaces := #[]
  cf := some (fileOf pool3 2 #[] #[] 1537 4 #[] #[])
  fields := #[]
  methods := #[]
  instanceTypes := #[]
  staticTypes := #[]
  resolved := Array.replicate 8 none
  statics := none }

def pool4 : Array CpInfo := pool [(1, u "java/io/Serializable"), (0, .class_ 1), (0, u "java/lang/Object"), (0, .class_ 3)] 3

/-- java/io/Serializable -/
def k4 : Class := { plain "java/io/Serializable" (some 0) with
  accessFlags := 1537
  interfaces := #[]
  cf := some (fileOf pool4 2 #[] #[] 1537 4 #[] #[])
  fields := #[]
  methods := #[]
  instanceTypes := #[]
  staticTypes := #[]
  resolved := Array.replicate 8 none
  statics := none }

/-- the primitive byte -/
def k5 : Class := { plain "byte" none with kind := .primitive 'B', accessFlags := 0x411 }
/-- [B -/
def k6 : Class := { plain "[B" (some 0) with kind := .array 5 .byte, interfaces := #[3, 4], accessFlags := 1041 }

/-- the primitive double -/
def k7 : Class := { plain "double" none with kind := .primitive 'D', accessFlags := 0x411 }
/-- [D -/
def k8 : Class := { plain "[D" (some 0) with kind := .array 7 .double, interfaces := #[3, 4], accessFlags := 1041 }

/-- the primitive int -/
def k9 : Class := { plain "int" none with kind := .primitive 'I', accessFlags := 0x411 }
/-- [I -/
def k10 : Class := { plain "[I" (some 0) with kind := .array 9 .int, interfaces := #[3, 4], accessFlags := 1041 }

/-- [[D -/
def k11 : Class := { plain "[[D" (some 0) with kind := .array 8 (.array .double), interfaces := #[3, 4], accessFlags := 1041 }

def heap : Heap := #[]
def classes : Array Class := #[k0, k1, k2, k3, k4, k5, k6, k7, k8, k9, k10, k11]
def interned : List (Array UInt16 × Addr) := []
def slotsUsed : Nat := 0
def theMethod : MethodId := ⟨1, 3⟩
def args0 : Array Value := #[.int 3, .int 2, .int 5, .int 1, .int 7, .int 4]
def aboutOver (below : List Frame) : State where
  vm := { classes := classes, interned := interned.toArray }
  heap := heap
  slotsUsed := slotsUsed
  threads := #[{ frames := .invoking theMethod args0 :: below }]
def below0 : List Frame := [.native { method := ⟨0, 0⟩, args := #[] }]
def about1 : State := aboutOver below0
def p0 : Program := .bare "" "" ""
def e0 : Env := launch0.env 0 0 0
theorem w_frames : about1.frames = Frame.invoking theMethod args0 :: below0 := rfl
set_option maxRecDepth 65536 in
theorem w_args : argsFit about1.vm theMethod args0 = true := by decide +kernel
set_option maxRecDepth 65536 in
theorem w_heap : heapFits about1 = true := by decide +kernel
set_option maxRecDepth 65536 in
theorem w_runnable : about1.curStatus? = some .runnable := by decide +kernel
set_option maxRecDepth 65536 in
theorem w_alone : about1.alone = true := by decide +kernel
set_option maxRecDepth 65536 in
theorem w_named : about1.methodNamed? x = some theMethod := by decide +kernel
set_option maxRecDepth 65536 in
theorem w_hears : about1.hears theMethod below0 = true := by decide +kernel
set_option maxRecDepth 65536 in
theorem w_ripe : about1.ripe theMethod args0 below0 = true := by decide +kernel
theorem w_running : about1.status = .running := rfl
set_option maxRecDepth 65536 in
theorem w_room : about1.hasRoom e0.platform room_1 = true :=
  launch0.hasRoom_least _ room_1 (by decide +kernel) (by decide +kernel) (by decide +kernel) (by decide +kernel) (by decide +kernel) (by decide +kernel)
theorem allAtoms_all (ts : List Jvm.Cond) (a : Array Jvm.Value) (st : Jvm.State) : (allAtoms ts).before a st = ts.all (fun c => c.before a st) := by
  induction ts with
  | nil => rfl
  | cons c t ih =>
    show (Jvm.Cond.and c (allAtoms t)).before a st = _
    rw [Jvm.Cond.before_and, ih, List.all_cons]
def words1 : List Jvm.Cond := Jvm.Cond.code x code maxLocals ret :: tables_1
/-- a 'code' word, met by the world's own term for the bytes: nothing is compared byte by byte -/
theorem code_word {y : MethodName} {bytes : ByteArray} {mx : Nat} {rt : Option FieldType} {a : Array Value} {s : State} {m : MethodId} {meth : Method} {c : Code} (h1 : s.methodNamed? y = some m) (h2 : s.vm.method? m = some meth) (h3 : meth.code = some c) (h4 : c.code = bytes)
    (h5 : (c.maxLocals == mx && c.exceptionTable.isEmpty && decide (c.maxStack ≤ mostOperands) && decide (meth.sig.returnType = rt) && !meth.locks && decide (parseMethodDescriptor y.desc = some meth.sig)) = true) : (Jvm.Cond.code y bytes mx rt).before a s = true := by
  simp only [Bool.and_eq_true, beq_iff_eq, Bool.not_eq_true', decide_eq_true_eq] at h5
  obtain ⟨⟨⟨⟨⟨g1, g2⟩, g3⟩, g4⟩, g5⟩, g6⟩ := h5
  simp [Cond.before, Cond.holds, Cond.value, h1, h2, h3, h4, g1, g2, g3, g4, g5, g6]
def isCode : Jvm.Cond → Bool
  | .code _ _ _ _ => true
  | _ => false
theorem all_split {L : List Jvm.Cond} {P : Jvm.Cond → Bool} (h1 : L.all (fun c => isCode c || P c) = true) (h2 : ∀ c ∈ L.filter isCode, P c = true) : L.all P = true := by
  refine List.all_eq_true.mpr fun c hc => ?_
  have h := List.all_eq_true.mp h1 c hc
  rcases Bool.eq_false_or_eq_true (isCode c) with hi | hi
  · exact h2 c (List.mem_filter.mpr ⟨hc, hi⟩)
  · simpa [hi] using h
set_option maxRecDepth 65536 in
theorem w_c0 : (Jvm.Cond.code x code maxLocals ret).before args0 about1 = true := code_word (m := ⟨1, 3⟩) (meth := k1m3) (c := k1c3) (by decide +kernel) rfl rfl rfl (by decide +kernel)
set_option maxRecDepth 65536 in
theorem w_c1 : (Jvm.Cond.code ({ cls := "com/example/twelvefold/twelvefold/FrameTransformMatrix", name := "<init>", desc := "([D)V" } : Jvm.MethodName) prog_6_method_1_code (2 : Nat) (Option.none : Option Jvm.ClassFile.FieldType)).before args0 about1 = true := code_word (m := ⟨2, 0⟩) (meth := k2m0) (c := k2c0) (by decide +kernel) rfl rfl rfl (by decide +kernel)
set_option maxRecDepth 65536 in
theorem w_c2 : (Jvm.Cond.code ({ cls := "java/lang/Object", name := "<init>", desc := "()V" } : Jvm.MethodName) object_method_1_code (1 : Nat) (Option.none : Option Jvm.ClassFile.FieldType)).before args0 about1 = true := code_word (m := ⟨0, 0⟩) (meth := k0m0) (c := k0c0) (by decide +kernel) rfl rfl rfl (by decide +kernel)
set_option maxRecDepth 65536 in
theorem w_c3 : (Jvm.Cond.code ({ cls := "com/example/twelvefold/twelvefold/FrameTransformMatrix", name := "toArray", desc := "()[[D" } : Jvm.MethodName) prog_6_method_7_code (2 : Nat) (Option.some (Jvm.ClassFile.FieldType.array (Jvm.ClassFile.FieldType.array Jvm.ClassFile.FieldType.double)))).before args0 about1 = true := code_word (m := ⟨2, 1⟩) (meth := k2m1) (c := k2c1) (by decide +kernel) rfl rfl rfl (by decide +kernel)
set_option maxRecDepth 65536 in
theorem w_c4 : (Jvm.Cond.code ({ cls := "com/example/twelvefold/twelvefold/FrameTransformMatrixToArrayPinLaw", name := "shaped", desc := "([[D)Z" } : Jvm.MethodName) method_2_code (1 : Nat) (Option.some Jvm.ClassFile.FieldType.boolean)).before args0 about1 = true := code_word (m := ⟨1, 1⟩) (meth := k1m1) (c := k1c1) (by decide +kernel) rfl rfl rfl (by decide +kernel)
set_option maxRecDepth 65536 in
theorem w_c5 : (Jvm.Cond.code ({ cls := "com/example/twelvefold/twelvefold/FrameTransformMatrixToArrayPinLaw", name := "matches", desc := "([[D[D)Z" } : Jvm.MethodName) method_3_code (2 : Nat) (Option.some Jvm.ClassFile.FieldType.boolean)).before args0 about1 = true := code_word (m := ⟨1, 2⟩) (meth := k1m2) (c := k1c2) (by decide +kernel) rfl rfl rfl (by decide +kernel)
def codes1 : List Jvm.Cond := [Jvm.Cond.code x code maxLocals ret, Jvm.Cond.code ({ cls := "com/example/twelvefold/twelvefold/FrameTransformMatrix", name := "<init>", desc := "([D)V" } : Jvm.MethodName) prog_6_method_1_code (2 : Nat) (Option.none : Option Jvm.ClassFile.FieldType), Jvm.Cond.code ({ cls := "java/lang/Object", name := "<init>", desc := "()V" } : Jvm.MethodName) object_method_1_code (1 : Nat) (Option.none : Option Jvm.ClassFile.FieldType), Jvm.Cond.code ({ cls := "com/example/twelvefold/twelvefold/FrameTransformMatrix", name := "toArray", desc := "()[[D" } : Jvm.MethodName) prog_6_method_7_code (2 : Nat) (Option.some (Jvm.ClassFile.FieldType.array (Jvm.ClassFile.FieldType.array Jvm.ClassFile.FieldType.double))), Jvm.Cond.code ({ cls := "com/example/twelvefold/twelvefold/FrameTransformMatrixToArrayPinLaw", name := "shaped", desc := "([[D)Z" } : Jvm.MethodName) method_2_code (1 : Nat) (Option.some Jvm.ClassFile.FieldType.boolean), Jvm.Cond.code ({ cls := "com/example/twelvefold/twelvefold/FrameTransformMatrixToArrayPinLaw", name := "matches", desc := "([[D[D)Z" } : Jvm.MethodName) method_3_code (2 : Nat) (Option.some Jvm.ClassFile.FieldType.boolean)]
set_option maxRecDepth 65536 in
theorem codes_eq : words1.filter isCode = codes1 := rfl
theorem w_codes : ∀ c ∈ words1.filter isCode, c.before args0 about1 = true := by
  rw [codes_eq]
  intro c hc
  simp only [codes1, List.mem_cons, List.not_mem_nil, or_false] at hc
  rcases hc with rfl | rfl | rfl | rfl | rfl | rfl
  · exact w_c0
  · exact w_c1
  · exact w_c2
  · exact w_c3
  · exact w_c4
  · exact w_c5
set_option maxRecDepth 65536 in
theorem w_t1 : (words1.take 24).all (fun c => isCode c || c.before args0 about1) = true := by decide +kernel
set_option maxRecDepth 65536 in
theorem w_t2 : (words1.drop 24).all (fun c => isCode c || c.before args0 about1) = true := by decide +kernel
theorem w_tables : (allAtoms (Jvm.Cond.code x code maxLocals ret :: tables_1)).before args0 about1 = true := by
  rw [allAtoms_all]
  show words1.all (fun c => c.before args0 about1) = true
  refine all_split ?_ w_codes
  rw [← List.take_append_drop 24 words1, List.all_append, w_t1, w_t2]
  rfl
set_option maxRecDepth 65536 in
theorem w_case : (Jvm.Cond.and given_1 narrow_1).before args0 about1 = true := by decide +kernel
theorem w_applies : (headSpec (Jvm.Cond.code x code maxLocals ret :: tables_1) room_1).applies x e0.platform about1 = true :=
  (Spec.applies_iff w_frames).mpr ⟨w_running, w_runnable, w_alone, w_named, w_hears, w_ripe, w_room, w_tables⟩
theorem atStart : AtStart classFile x code maxLocals ret World_1 tables_1 room_1 Calls_1 rest_1 Pre_1 launch0 p0 e0 about1 theMethod args0 below0 :=
  ⟨lists_1, trivial, launch0.admits_env _ _ _, launch0.least_env, fairChoices_fair.cas, fairChoices_fair.clock, w_frames, w_args, w_heap, w_applies, trivial, trivial, w_case⟩
end start1
theorem witness_1 : WitnessClaimed_1 := ⟨start1.p0, start1.e0, start1.about1, start1.theMethod, start1.args0, start1.below0, start1.atStart⟩
end Jvm.Pilot.@@N@@
