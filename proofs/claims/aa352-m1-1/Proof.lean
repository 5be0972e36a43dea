import JvmDerived
import JvmDerived.Pilot.@@N@@Statement
import JvmDerived.Pilot.@@N@@Code
set_option linter.unusedVariables false
set_option linter.unusedSimpArgs false
namespace Jvm.Pilot.@@N@@
open Jvm Jvm.ClassFile Sem Op Lib Jvm.Free Jvm.Stand Jvm.LawKit Jvm.RoadKit Bundle Jvm.Pilot.@@N@@.Jvm.D
section OwnKit
variable {p : Program} {l : Launch} {e : Env} {R : Room} {s : State} {m : MethodId} {args : Array Value} {below : List Frame} {meth : Method} {c : Code} {T T' : State} {locs : List Loc} {cells slots : Nat} {P : Outcome → State → Prop} {Q : Option Value → Heap → List Loc → Prop} {cC cS : Nat} {bytes : ByteArray} {ls : Array Slot} {st : List Value} {pc pc' : Nat} {g g' : JFrame} {Z : State} {a0 : Array Value} {h h' : Heap}
/-- from this state and frame the method comes to its end, returns, and Q holds of what it leaves -/
def own_Got (p : Program) (e : Env) (below : List Frame) (P : Outcome → State → Prop) (T : State) (g : JFrame) : Prop :=
  ∃ s₂ o, Steps p.tables e below (T.setTop g) s₂ ∧ s₂.status = .running ∧ Ended s₂ below o ∧ P o s₂
/-- what a contract says of the end -/
def own_End (s : State) (Q : Option Value → Heap → List Loc → Prop) (cC cS : Nat) (o : Outcome) (U : State) : Prop := ∃ v L, o = .returned v ∧ Q v U.heap L ∧ FrameEnd s o U L cC cS
theorem own_go (k : ∀ t, Steps p.tables e below (T'.setTop g') t → Steps p.tables e below (T.setTop g) t) (h : own_Got p e below P T' g') : own_Got p e below P T g := by
  obtain ⟨s2, o, h1, h2⟩ := h; exact ⟨s2, o, k _ h1, h2⟩
theorem own_tr (k : Steps p.tables e below (T.setTop g) (T'.setTop g')) (h : own_Got p e below P T' g') : own_Got p e below P T g := own_go (fun _ q => k.trans q) h
theorem own_cast (q : g = g') (h : own_Got p e below P T g') : own_Got p e below P T g := q ▸ h
theorem own_retV (X : Stand p l e R s m args below meth c T locs cells slots) (hx : p.tables.exec = Jvm.exec) (hby : c.code = bytes) (hlk : meth.locks = false) (hret : meth.sig.returnType = none) (hd : decode bytes pc = .ok (.return_, 1)) (hc : cells ≤ cC) (hs : slots ≤ cS)
    (hq : Q none T.heap locs) : own_Got p e below (own_End s Q cC cS) T (mkF m pc ls []) := by
  obtain ⟨fs, hr, hrun, hended, hW, hsame⟩ := X.leave (v := none) (fun _ => rfl) hlk
  exact ⟨_, _, X.returnOut hx hret (hb hby hd) hr, hrun, hended, _, _, rfl, hq, ⟨_, rfl⟩, hW, hsame.mono hc hs⟩
theorem own_retI (X : Stand p l e R s m args below meth c T locs cells slots) (hx : p.tables.exec = Jvm.exec) (hby : c.code = bytes) (hlk : meth.locks = false) (hret : meth.sig.returnType = some .int) (hd : decode bytes pc = .ok (.ireturn, 1)) (hc : cells ≤ cC) (hs : slots ≤ cS) {z : Int32}
    (hq : Q (some (.int z)) T.heap locs) : own_Got p e below (own_End s Q cC cS) T (mkF m pc ls (.int z :: st)) := by
  obtain ⟨fs, hr, hrun, hended, hW, hsame⟩ := X.leave (v := some (.int z)) (fun h => by rw [hret] at h; cases h) hlk
  exact ⟨_, _, retOut X hx hret rfl (Or.inl ⟨rfl, Or.inl rfl, _, rfl⟩) (hb hby hd) hr, hrun, hended, _, _, rfl, hq, ⟨_, rfl⟩, hW, hsame.mono hc hs⟩
theorem own_retL (X : Stand p l e R s m args below meth c T locs cells slots) (hx : p.tables.exec = Jvm.exec) (hby : c.code = bytes) (hlk : meth.locks = false) (hret : meth.sig.returnType = some .long) (hd : decode bytes pc = .ok (.lreturn, 1)) (hc : cells ≤ cC) (hs : slots ≤ cS) {z : Int64}
    (hq : Q (some (.long z)) T.heap locs) : own_Got p e below (own_End s Q cC cS) T (mkF m pc ls (.long z :: st)) := by
  obtain ⟨fs, hr, hrun, hended, hW, hsame⟩ := X.leave (v := some (.long z)) (fun h => by rw [hret] at h; cases h) hlk
  exact ⟨_, _, retOut X hx hret rfl (Or.inr (Or.inl ⟨rfl, rfl, _, rfl⟩)) (hb hby hd) hr, hrun, hended, _, _, rfl, hq, ⟨_, rfl⟩, hW, hsame.mono hc hs⟩
theorem own_retD (X : Stand p l e R s m args below meth c T locs cells slots) (hx : p.tables.exec = Jvm.exec) (hby : c.code = bytes) (hlk : meth.locks = false) (hret : meth.sig.returnType = some .double) (hd : decode bytes pc = .ok (.dreturn, 1)) (hc : cells ≤ cC) (hs : slots ≤ cS) {z : UInt64}
    (hq : Q (some (.double z)) T.heap locs) : own_Got p e below (own_End s Q cC cS) T (mkF m pc ls (.double z :: st)) := by
  obtain ⟨fs, hr, hrun, hended, hW, hsame⟩ := X.leave (v := some (.double z)) (fun h => by rw [hret] at h; cases h) hlk
  exact ⟨_, _, retOut X hx hret rfl (Or.inr (Or.inr (Or.inl ⟨rfl, rfl, _, rfl⟩))) (hb hby hd) hr, hrun, hended, _, _, rfl, hq, ⟨_, rfl⟩, hW, hsame.mono hc hs⟩
theorem own_retN (X : Stand p l e R s m args below meth c T locs cells slots) (hx : p.tables.exec = Jvm.exec) (hby : c.code = bytes) (hlk : meth.locks = false) {t : FieldType} (hret : meth.sig.returnType = some t) (ht : t = .boolean ∨ t = .byte ∨ t = .char ∨ t = .short) (hd : decode bytes pc = .ok (.ireturn, 1)) (hc : cells ≤ cC) (hs : slots ≤ cS) {z : Int32}
    (hq : Q (some (.int (nar t z))) T.heap locs) : own_Got p e below (own_End s Q cC cS) T (mkF m pc ls (.int z :: st)) := by
  obtain ⟨fs, hr, hrun, hended, hW, hsame⟩ := X.leave (v := some (.int (nar t z))) (fun h => by rw [hret] at h; cases h) hlk
  exact ⟨_, _, retN X hx hret ht (hb hby hd) hr, hrun, hended, _, _, rfl, hq, ⟨_, rfl⟩, hW, hsame.mono hc hs⟩
theorem own_retR (X : Stand p l e R s m args below meth c T locs cells slots) (hx : p.tables.exec = Jvm.exec) (hby : c.code = bytes) (hlk : meth.locks = false) {t : FieldType} (hret : meth.sig.returnType = some t) (ht : t.isReference = true) (hd : decode bytes pc = .ok (.areturn, 1)) (hc : cells ≤ cC) (hs : slots ≤ cS) {w : Value} (hw : w.isRef = true)
    (hq : Q (some w) T.heap locs) : own_Got p e below (own_End s Q cC cS) T (mkF m pc ls (w :: st)) := by
  obtain ⟨fs, hr, hrun, hended, hW, hsame⟩ := X.leave (v := some w) (fun h => by rw [hret] at h; cases h) hlk
  have hn : narrow t w = w := by rcases ref_cases hw with rfl | ⟨a, rfl⟩ <;> cases t <;> first | rfl | (cases ht)
  exact ⟨_, _, retOut X hx hret hn (Or.inr (Or.inr (Or.inr (Or.inr ⟨rfl, ht, hw⟩)))) (hb hby hd) hr, hrun, hended, _, _, rfl, hq, ⟨_, rfl⟩, hW, hsame.mono hc hs⟩
theorem g_iloadN (X : Stand p l e R s m args below meth c T locs cells slots) (hx : p.tables.exec = Jvm.exec) (hby : c.code = bytes) {k : Fin 4} {v : Int32} (hd : decode bytes pc = .ok (.iload_n k, 1)) (hl : ls[k.val]? = some (.val (.int v))) (hp : pc + 1 = pc')
    (k : own_Got p e below P T (mkF m pc' ls (.int v :: st))) : own_Got p e below P T (mkF m pc ls (st)) := by
  subst hp; exact own_go (fun _ q => XS.iloadN X.here hx rfl (hb hby hd) hl q) k
theorem g_iload (X : Stand p l e R s m args below meth c T locs cells slots) (hx : p.tables.exec = Jvm.exec) (hby : c.code = bytes) {k : Nat} {v : Int32} (hd : decode bytes pc = .ok (.iload k, 2)) (hl : ls[k]? = some (.val (.int v))) (hp : pc + 2 = pc')
    (k : own_Got p e below P T (mkF m pc' ls (.int v :: st))) : own_Got p e below P T (mkF m pc ls (st)) := by
  subst hp; exact own_go (fun _ q => XS.iload X.here hx rfl (hb hby hd) hl q) k
theorem g_lloadN (X : Stand p l e R s m args below meth c T locs cells slots) (hx : p.tables.exec = Jvm.exec) (hby : c.code = bytes) {k : Fin 4} {v : Int64} (hd : decode bytes pc = .ok (.lload_n k, 1)) (hl : ls[k.val]? = some (.val (.long v))) (hp : pc + 1 = pc')
    (k : own_Got p e below P T (mkF m pc' ls (.long v :: st))) : own_Got p e below P T (mkF m pc ls (st)) := by
  subst hp; exact own_go (fun _ q => XS.lloadN X.here hx rfl (hb hby hd) hl q) k
theorem g_lload (X : Stand p l e R s m args below meth c T locs cells slots) (hx : p.tables.exec = Jvm.exec) (hby : c.code = bytes) {k : Nat} {v : Int64} (hd : decode bytes pc = .ok (.lload k, 2)) (hl : ls[k]? = some (.val (.long v))) (hp : pc + 2 = pc')
    (k : own_Got p e below P T (mkF m pc' ls (.long v :: st))) : own_Got p e below P T (mkF m pc ls (st)) := by
  subst hp; exact own_go (fun _ q => XS.lload X.here hx rfl (hb hby hd) hl q) k
theorem g_dloadN (X : Stand p l e R s m args below meth c T locs cells slots) (hx : p.tables.exec = Jvm.exec) (hby : c.code = bytes) {k : Fin 4} {v : UInt64} (hd : decode bytes pc = .ok (.dload_n k, 1)) (hl : ls[k.val]? = some (.val (.double v))) (hp : pc + 1 = pc')
    (k : own_Got p e below P T (mkF m pc' ls (.double v :: st))) : own_Got p e below P T (mkF m pc ls (st)) := by
  subst hp; exact own_go (fun _ q => XS.dloadN X.here hx rfl (hb hby hd) hl q) k
theorem g_dload (X : Stand p l e R s m args below meth c T locs cells slots) (hx : p.tables.exec = Jvm.exec) (hby : c.code = bytes) {k : Nat} {v : UInt64} (hd : decode bytes pc = .ok (.dload k, 2)) (hl : ls[k]? = some (.val (.double v))) (hp : pc + 2 = pc')
    (k : own_Got p e below P T (mkF m pc' ls (.double v :: st))) : own_Got p e below P T (mkF m pc ls (st)) := by
  subst hp; exact own_go (fun _ q => XS.dload X.here hx rfl (hb hby hd) hl q) k
theorem g_aloadN (X : Stand p l e R s m args below meth c T locs cells slots) (hx : p.tables.exec = Jvm.exec) (hby : c.code = bytes) {k : Fin 4} {v : Value} (hd : decode bytes pc = .ok (.aload_n k, 1)) (hl : ls[k.val]? = some (.val v)) (hv : v.isRef = true) (hp : pc + 1 = pc')
    (k : own_Got p e below P T (mkF m pc' ls (v :: st))) : own_Got p e below P T (mkF m pc ls (st)) := by
  subst hp; exact own_go (fun _ q => XS.aloadN X.here hx rfl (hb hby hd) hl hv q) k
theorem g_aload (X : Stand p l e R s m args below meth c T locs cells slots) (hx : p.tables.exec = Jvm.exec) (hby : c.code = bytes) {k : Nat} {v : Value} (hd : decode bytes pc = .ok (.aload k, 2)) (hl : ls[k]? = some (.val v)) (hv : v.isRef = true) (hp : pc + 2 = pc')
    (k : own_Got p e below P T (mkF m pc' ls (v :: st))) : own_Got p e below P T (mkF m pc ls (st)) := by
  subst hp; exact own_go (fun _ q => XS.aload X.here hx rfl (hb hby hd) hl hv q) k
theorem g_istoreN (X : Stand p l e R s m args below meth c T locs cells slots) (hx : p.tables.exec = Jvm.exec) (hby : c.code = bytes) {k : Fin 4} {x : Int32} (ls' : Array Slot) (hd : decode bytes pc = .ok (.istore_n k, 1)) (hl : storeLocals ls k.val (.int x) = some ls') (hp : pc + 1 = pc')
    (k : own_Got p e below P T (mkF m pc' ls' (st))) : own_Got p e below P T (mkF m pc ls (.int x :: st)) := by
  subst hp; exact own_go (fun _ q => XS.istoreN X.here hx rfl (hb hby hd) rfl hl q) k
theorem g_istore (X : Stand p l e R s m args below meth c T locs cells slots) (hx : p.tables.exec = Jvm.exec) (hby : c.code = bytes) {k : Nat} {x : Int32} (ls' : Array Slot) (hd : decode bytes pc = .ok (.istore k, 2)) (hl : storeLocals ls k (.int x) = some ls') (hp : pc + 2 = pc')
    (k : own_Got p e below P T (mkF m pc' ls' (st))) : own_Got p e below P T (mkF m pc ls (.int x :: st)) := by
  subst hp; exact own_go (fun _ q => XS.istore X.here hx rfl (hb hby hd) rfl hl q) k
theorem g_lstoreN (X : Stand p l e R s m args below meth c T locs cells slots) (hx : p.tables.exec = Jvm.exec) (hby : c.code = bytes) {k : Fin 4} {x : Int64} (ls' : Array Slot) (hd : decode bytes pc = .ok (.lstore_n k, 1)) (hl : storeLocals ls k.val (.long x) = some ls') (hp : pc + 1 = pc')
    (k : own_Got p e below P T (mkF m pc' ls' (st))) : own_Got p e below P T (mkF m pc ls (.long x :: st)) := by
  subst hp; exact own_go (fun _ q => XS.lstoreN X.here hx rfl (hb hby hd) rfl hl q) k
theorem g_lstore (X : Stand p l e R s m args below meth c T locs cells slots) (hx : p.tables.exec = Jvm.exec) (hby : c.code = bytes) {k : Nat} {x : Int64} (ls' : Array Slot) (hd : decode bytes pc = .ok (.lstore k, 2)) (hl : storeLocals ls k (.long x) = some ls') (hp : pc + 2 = pc')
    (k : own_Got p e below P T (mkF m pc' ls' (st))) : own_Got p e below P T (mkF m pc ls (.long x :: st)) := by
  subst hp; exact own_go (fun _ q => XS.lstore X.here hx rfl (hb hby hd) rfl hl q) k
theorem g_dstoreN (X : Stand p l e R s m args below meth c T locs cells slots) (hx : p.tables.exec = Jvm.exec) (hby : c.code = bytes) {k : Fin 4} {x : UInt64} (ls' : Array Slot) (hd : decode bytes pc = .ok (.dstore_n k, 1)) (hl : storeLocals ls k.val (.double x) = some ls') (hp : pc + 1 = pc')
    (k : own_Got p e below P T (mkF m pc' ls' (st))) : own_Got p e below P T (mkF m pc ls (.double x :: st)) := by
  subst hp; exact own_go (fun _ q => XS.dstoreN X.here hx rfl (hb hby hd) rfl hl q) k
theorem g_dstore (X : Stand p l e R s m args below meth c T locs cells slots) (hx : p.tables.exec = Jvm.exec) (hby : c.code = bytes) {k : Nat} {x : UInt64} (ls' : Array Slot) (hd : decode bytes pc = .ok (.dstore k, 2)) (hl : storeLocals ls k (.double x) = some ls') (hp : pc + 2 = pc')
    (k : own_Got p e below P T (mkF m pc' ls' (st))) : own_Got p e below P T (mkF m pc ls (.double x :: st)) := by
  subst hp; exact own_go (fun _ q => XS.dstore X.here hx rfl (hb hby hd) rfl hl q) k
theorem g_astoreN (X : Stand p l e R s m args below meth c T locs cells slots) (hx : p.tables.exec = Jvm.exec) (hby : c.code = bytes) {k : Fin 4} {x : Value} (ls' : Array Slot) (hd : decode bytes pc = .ok (.astore_n k, 1)) (hv : x.isRef = true) (hl : storeLocals ls k.val x = some ls') (hp : pc + 1 = pc')
    (k : own_Got p e below P T (mkF m pc' ls' (st))) : own_Got p e below P T (mkF m pc ls (x :: st)) := by
  subst hp; exact own_go (fun _ q => XS.astoreN X.here hx rfl (hb hby hd) rfl hv hl q) k
theorem g_astore (X : Stand p l e R s m args below meth c T locs cells slots) (hx : p.tables.exec = Jvm.exec) (hby : c.code = bytes) {k : Nat} {x : Value} (ls' : Array Slot) (hd : decode bytes pc = .ok (.astore k, 2)) (hv : x.isRef = true) (hl : storeLocals ls k x = some ls') (hp : pc + 2 = pc')
    (k : own_Got p e below P T (mkF m pc' ls' (st))) : own_Got p e below P T (mkF m pc ls (x :: st)) := by
  subst hp; exact own_go (fun _ q => XS.astore X.here hx rfl (hb hby hd) rfl hv hl q) k
theorem g_iconst (X : Stand p l e R s m args below meth c T locs cells slots) (hx : p.tables.exec = Jvm.exec) (hby : c.code = bytes) {i : Int} (z : Int32) (hd : decode bytes pc = .ok (.iconst i, 1)) (hz : Int32.ofInt i = z) (hp : pc + 1 = pc')
    (k : own_Got p e below P T (mkF m pc' ls (.int z :: st))) : own_Got p e below P T (mkF m pc ls (st)) := by
  subst hp; subst hz; exact own_go (fun _ q => XS.iconst X.here hx rfl (hb hby hd) q) k
theorem g_bipush (X : Stand p l e R s m args below meth c T locs cells slots) (hx : p.tables.exec = Jvm.exec) (hby : c.code = bytes) {i : Int} (z : Int32) (hd : decode bytes pc = .ok (.bipush i, 2)) (hz : (Int8.ofInt i).toInt32 = z) (hp : pc + 2 = pc')
    (k : own_Got p e below P T (mkF m pc' ls (.int z :: st))) : own_Got p e below P T (mkF m pc ls (st)) := by
  subst hp; subst hz; exact own_go (fun _ q => XS.bipush X.here hx rfl (hb hby hd) q) k
theorem g_sipush (X : Stand p l e R s m args below meth c T locs cells slots) (hx : p.tables.exec = Jvm.exec) (hby : c.code = bytes) {i : Int} (z : Int32) (hd : decode bytes pc = .ok (.sipush i, 3)) (hz : (Int16.ofInt i).toInt32 = z) (hp : pc + 3 = pc')
    (k : own_Got p e below P T (mkF m pc' ls (.int z :: st))) : own_Got p e below P T (mkF m pc ls (st)) := by
  subst hp; subst hz; exact own_go (fun _ q => XS.sipush X.here hx rfl (hb hby hd) q) k
theorem g_lconst (X : Stand p l e R s m args below meth c T locs cells slots) (hx : p.tables.exec = Jvm.exec) (hby : c.code = bytes) {i : Fin 2} (z : Int64) (hd : decode bytes pc = .ok (.lconst i, 1)) (hz : Int64.ofNat i.val = z) (hp : pc + 1 = pc')
    (k : own_Got p e below P T (mkF m pc' ls (.long z :: st))) : own_Got p e below P T (mkF m pc ls (st)) := by
  subst hp; subst hz; exact own_go (fun _ q => XS.lconst X.here hx rfl (hb hby hd) q) k
theorem g_anull (X : Stand p l e R s m args below meth c T locs cells slots) (hx : p.tables.exec = Jvm.exec) (hby : c.code = bytes)  (hd : decode bytes pc = .ok (.aconst_null, 1))  (hp : pc + 1 = pc')
    (k : own_Got p e below P T (mkF m pc' ls (.null :: st))) : own_Got p e below P T (mkF m pc ls (st)) := by
  subst hp; exact own_go (fun _ q => XS.aconstNull X.here hx rfl (hb hby hd) q) k
theorem g_iadd (X : Stand p l e R s m args below meth c T locs cells slots) (hx : p.tables.exec = Jvm.exec) (hby : c.code = bytes) {x y : Int32} (hd : decode bytes pc = .ok (.iadd, 1))  (hp : pc + 1 = pc')
    (k : own_Got p e below P T (mkF m pc' ls (.int (x + y) :: st))) : own_Got p e below P T (mkF m pc ls (.int y :: .int x :: st)) := by
  subst hp; exact own_go (fun _ q => XS.iadd X.here hx rfl (hb hby hd) rfl q) k
theorem g_isub (X : Stand p l e R s m args below meth c T locs cells slots) (hx : p.tables.exec = Jvm.exec) (hby : c.code = bytes) {x y : Int32} (hd : decode bytes pc = .ok (.isub, 1))  (hp : pc + 1 = pc')
    (k : own_Got p e below P T (mkF m pc' ls (.int (x - y) :: st))) : own_Got p e below P T (mkF m pc ls (.int y :: .int x :: st)) := by
  subst hp; exact own_go (fun _ q => XS.isub X.here hx rfl (hb hby hd) rfl q) k
theorem g_iand (X : Stand p l e R s m args below meth c T locs cells slots) (hx : p.tables.exec = Jvm.exec) (hby : c.code = bytes) {x y : Int32} (hd : decode bytes pc = .ok (.iand, 1))  (hp : pc + 1 = pc')
    (k : own_Got p e below P T (mkF m pc' ls (.int (x &&& y) :: st))) : own_Got p e below P T (mkF m pc ls (.int y :: .int x :: st)) := by
  subst hp; exact own_go (fun _ q => XS.iand X.here hx rfl (hb hby hd) rfl q) k
theorem g_ior (X : Stand p l e R s m args below meth c T locs cells slots) (hx : p.tables.exec = Jvm.exec) (hby : c.code = bytes) {x y : Int32} (hd : decode bytes pc = .ok (.ior, 1))  (hp : pc + 1 = pc')
    (k : own_Got p e below P T (mkF m pc' ls (.int (x ||| y) :: st))) : own_Got p e below P T (mkF m pc ls (.int y :: .int x :: st)) := by
  subst hp; exact own_go (fun _ q => XS.ior X.here hx rfl (hb hby hd) rfl q) k
theorem g_ixor (X : Stand p l e R s m args below meth c T locs cells slots) (hx : p.tables.exec = Jvm.exec) (hby : c.code = bytes) {x y : Int32} (hd : decode bytes pc = .ok (.ixor, 1))  (hp : pc + 1 = pc')
    (k : own_Got p e below P T (mkF m pc' ls (.int (x ^^^ y) :: st))) : own_Got p e below P T (mkF m pc ls (.int y :: .int x :: st)) := by
  subst hp; exact own_go (fun _ q => XS.ixor X.here hx rfl (hb hby hd) rfl q) k
theorem g_imul (X : Stand p l e R s m args below meth c T locs cells slots) (hx : p.tables.exec = Jvm.exec) (hby : c.code = bytes) {x y : Int32} (hd : decode bytes pc = .ok (.imul, 1))  (hp : pc + 1 = pc')
    (k : own_Got p e below P T (mkF m pc' ls (.int (x * y) :: st))) : own_Got p e below P T (mkF m pc ls (.int y :: .int x :: st)) := by
  subst hp; exact own_go (fun _ q => XS.imul X.here hx rfl (hb hby hd) rfl q) k
theorem g_ladd (X : Stand p l e R s m args below meth c T locs cells slots) (hx : p.tables.exec = Jvm.exec) (hby : c.code = bytes) {x y : Int64} (hd : decode bytes pc = .ok (.ladd, 1))  (hp : pc + 1 = pc')
    (k : own_Got p e below P T (mkF m pc' ls (.long (x + y) :: st))) : own_Got p e below P T (mkF m pc ls (.long y :: .long x :: st)) := by
  subst hp; exact own_go (fun _ q => XS.ladd X.here hx rfl (hb hby hd) rfl q) k
theorem g_lsub (X : Stand p l e R s m args below meth c T locs cells slots) (hx : p.tables.exec = Jvm.exec) (hby : c.code = bytes) {x y : Int64} (hd : decode bytes pc = .ok (.lsub, 1))  (hp : pc + 1 = pc')
    (k : own_Got p e below P T (mkF m pc' ls (.long (x - y) :: st))) : own_Got p e below P T (mkF m pc ls (.long y :: .long x :: st)) := by
  subst hp; exact own_go (fun _ q => XS.lsub X.here hx rfl (hb hby hd) rfl q) k
theorem g_land (X : Stand p l e R s m args below meth c T locs cells slots) (hx : p.tables.exec = Jvm.exec) (hby : c.code = bytes) {x y : Int64} (hd : decode bytes pc = .ok (.land, 1))  (hp : pc + 1 = pc')
    (k : own_Got p e below P T (mkF m pc' ls (.long (x &&& y) :: st))) : own_Got p e below P T (mkF m pc ls (.long y :: .long x :: st)) := by
  subst hp; exact own_go (fun _ q => XS.land X.here hx rfl (hb hby hd) rfl q) k
theorem g_lor (X : Stand p l e R s m args below meth c T locs cells slots) (hx : p.tables.exec = Jvm.exec) (hby : c.code = bytes) {x y : Int64} (hd : decode bytes pc = .ok (.lor, 1))  (hp : pc + 1 = pc')
    (k : own_Got p e below P T (mkF m pc' ls (.long (x ||| y) :: st))) : own_Got p e below P T (mkF m pc ls (.long y :: .long x :: st)) := by
  subst hp; exact own_go (fun _ q => XS.lor X.here hx rfl (hb hby hd) rfl q) k
theorem g_lxor (X : Stand p l e R s m args below meth c T locs cells slots) (hx : p.tables.exec = Jvm.exec) (hby : c.code = bytes) {x y : Int64} (hd : decode bytes pc = .ok (.lxor, 1))  (hp : pc + 1 = pc')
    (k : own_Got p e below P T (mkF m pc' ls (.long (x ^^^ y) :: st))) : own_Got p e below P T (mkF m pc ls (.long y :: .long x :: st)) := by
  subst hp; exact own_go (fun _ q => XS.lxor X.here hx rfl (hb hby hd) rfl q) k
theorem g_lmul (X : Stand p l e R s m args below meth c T locs cells slots) (hx : p.tables.exec = Jvm.exec) (hby : c.code = bytes) {x y : Int64} (hd : decode bytes pc = .ok (.lmul, 1))  (hp : pc + 1 = pc')
    (k : own_Got p e below P T (mkF m pc' ls (.long (x * y) :: st))) : own_Got p e below P T (mkF m pc ls (.long y :: .long x :: st)) := by
  subst hp; exact own_go (fun _ q => XS.lmul X.here hx rfl (hb hby hd) rfl q) k
theorem g_idiv (X : Stand p l e R s m args below meth c T locs cells slots) (hx : p.tables.exec = Jvm.exec) (hby : c.code = bytes) {x y : Int32} (hd : decode bytes pc = .ok (.idiv, 1)) (hy : y ≠ 0) (hp : pc + 1 = pc')
    (k : own_Got p e below P T (mkF m pc' ls (.int (x / y) :: st))) : own_Got p e below P T (mkF m pc ls (.int y :: .int x :: st)) := by
  subst hp; exact own_go (fun _ q => XS.idiv X.here hx rfl (hb hby hd) rfl hy q) k
theorem g_irem (X : Stand p l e R s m args below meth c T locs cells slots) (hx : p.tables.exec = Jvm.exec) (hby : c.code = bytes) {x y : Int32} (hd : decode bytes pc = .ok (.irem, 1)) (hy : y ≠ 0) (hp : pc + 1 = pc')
    (k : own_Got p e below P T (mkF m pc' ls (.int (x % y) :: st))) : own_Got p e below P T (mkF m pc ls (.int y :: .int x :: st)) := by
  subst hp; exact own_go (fun _ q => iremM X hx rfl (hb hby hd) rfl hy q) k
theorem g_ishl (X : Stand p l e R s m args below meth c T locs cells slots) (hx : p.tables.exec = Jvm.exec) (hby : c.code = bytes) {x y : Int32} (hd : decode bytes pc = .ok (.ishl, 1))  (hp : pc + 1 = pc')
    (k : own_Got p e below P T (mkF m pc' ls (.int (x <<< (y &&& 31)) :: st))) : own_Got p e below P T (mkF m pc ls (.int y :: .int x :: st)) := by
  subst hp; exact own_go (fun _ q => XS.ishl X.here hx rfl (hb hby hd) rfl q) k
theorem g_ishr (X : Stand p l e R s m args below meth c T locs cells slots) (hx : p.tables.exec = Jvm.exec) (hby : c.code = bytes) {x y : Int32} (hd : decode bytes pc = .ok (.ishr, 1))  (hp : pc + 1 = pc')
    (k : own_Got p e below P T (mkF m pc' ls (.int (x >>> (y &&& 31)) :: st))) : own_Got p e below P T (mkF m pc ls (.int y :: .int x :: st)) := by
  subst hp; exact own_go (fun _ q => XS.ishr X.here hx rfl (hb hby hd) rfl q) k
theorem g_iushr (X : Stand p l e R s m args below meth c T locs cells slots) (hx : p.tables.exec = Jvm.exec) (hby : c.code = bytes) {x y : Int32} (hd : decode bytes pc = .ok (.iushr, 1))  (hp : pc + 1 = pc')
    (k : own_Got p e below P T (mkF m pc' ls (.int ((x.toUInt32 >>> (y &&& 31).toUInt32).toInt32) :: st))) : own_Got p e below P T (mkF m pc ls (.int y :: .int x :: st)) := by
  subst hp; exact own_go (fun _ q => XS.iushr X.here hx rfl (hb hby hd) rfl q) k
theorem g_ineg (X : Stand p l e R s m args below meth c T locs cells slots) (hx : p.tables.exec = Jvm.exec) (hby : c.code = bytes) {x : Int32} (hd : decode bytes pc = .ok (.ineg, 1))  (hp : pc + 1 = pc')
    (k : own_Got p e below P T (mkF m pc' ls (.int (-x) :: st))) : own_Got p e below P T (mkF m pc ls (.int x :: st)) := by
  subst hp; exact own_go (fun _ q => XS.ineg X.here hx rfl (hb hby hd) rfl q) k
theorem g_i2b (X : Stand p l e R s m args below meth c T locs cells slots) (hx : p.tables.exec = Jvm.exec) (hby : c.code = bytes) {x : Int32} (hd : decode bytes pc = .ok (.i2b, 1))  (hp : pc + 1 = pc')
    (k : own_Got p e below P T (mkF m pc' ls (.int x.toInt8.toInt32 :: st))) : own_Got p e below P T (mkF m pc ls (.int x :: st)) := by
  subst hp; exact own_go (fun _ q => XS.i2b X.here hx rfl (hb hby hd) rfl q) k
theorem g_i2s (X : Stand p l e R s m args below meth c T locs cells slots) (hx : p.tables.exec = Jvm.exec) (hby : c.code = bytes) {x : Int32} (hd : decode bytes pc = .ok (.i2s, 1))  (hp : pc + 1 = pc')
    (k : own_Got p e below P T (mkF m pc' ls (.int x.toInt16.toInt32 :: st))) : own_Got p e below P T (mkF m pc ls (.int x :: st)) := by
  subst hp; exact own_go (fun _ q => XS.i2s X.here hx rfl (hb hby hd) rfl q) k
theorem g_i2c (X : Stand p l e R s m args below meth c T locs cells slots) (hx : p.tables.exec = Jvm.exec) (hby : c.code = bytes) {x : Int32} (hd : decode bytes pc = .ok (.i2c, 1))  (hp : pc + 1 = pc')
    (k : own_Got p e below P T (mkF m pc' ls (.int x.toUInt32.toUInt16.toUInt32.toInt32 :: st))) : own_Got p e below P T (mkF m pc ls (.int x :: st)) := by
  subst hp; exact own_go (fun _ q => XS.i2c X.here hx rfl (hb hby hd) rfl q) k
theorem g_i2l (X : Stand p l e R s m args below meth c T locs cells slots) (hx : p.tables.exec = Jvm.exec) (hby : c.code = bytes) {x : Int32} (hd : decode bytes pc = .ok (.i2l, 1))  (hp : pc + 1 = pc')
    (k : own_Got p e below P T (mkF m pc' ls (.long x.toInt64 :: st))) : own_Got p e below P T (mkF m pc ls (.int x :: st)) := by
  subst hp; exact own_go (fun _ q => XS.i2l X.here hx rfl (hb hby hd) rfl q) k
theorem g_lcmp (X : Stand p l e R s m args below meth c T locs cells slots) (hx : p.tables.exec = Jvm.exec) (hby : c.code = bytes) {x y : Int64} (hd : decode bytes pc = .ok (.lcmp, 1))  (hp : pc + 1 = pc')
    (k : own_Got p e below P T (mkF m pc' ls (.int (lcmpW x y) :: st))) : own_Got p e below P T (mkF m pc ls (.long y :: .long x :: st)) := by
  subst hp; exact own_go (fun _ q => XS.lcmp X.here hx rfl (hb hby hd) rfl q) k
theorem g_iinc (X : Stand p l e R s m args below meth c T locs cells slots) (hx : p.tables.exec = Jvm.exec) (hby : c.code = bytes) {k : Nat} {cst : Int} {x : Int32} (ls' : Array Slot) (hd : decode bytes pc = .ok (.iinc k cst, 3)) (hl : ls[k]? = some (.val (.int x))) (hl' : storeLocals ls k (.int (x + Int32.ofInt cst)) = some ls') (hp : pc + 3 = pc')
    (k : own_Got p e below P T (mkF m pc' ls' (st))) : own_Got p e below P T (mkF m pc ls (st)) := by
  subst hp; exact own_go (fun _ q => XS.iinc X.here hx rfl (hb hby hd) hl hl' q) k
theorem g_dup (X : Stand p l e R s m args below meth c T locs cells slots) (hx : p.tables.exec = Jvm.exec) (hby : c.code = bytes) {x : Value} (hd : decode bytes pc = .ok (.dup, 1)) (hc : x.category = 1) (hp : pc + 1 = pc')
    (k : own_Got p e below P T (mkF m pc' ls (x :: x :: st))) : own_Got p e below P T (mkF m pc ls (x :: st)) := by
  subst hp; exact own_go (fun _ q => XS.dup X.here hx rfl (hb hby hd) rfl hc q) k
theorem g_dupX1 (X : Stand p l e R s m args below meth c T locs cells slots) (hx : p.tables.exec = Jvm.exec) (hby : c.code = bytes) {x y : Value} (hd : decode bytes pc = .ok (.dup_x1, 1)) (hc : x.category = 1) (hc2 : y.category = 1) (hp : pc + 1 = pc')
    (k : own_Got p e below P T (mkF m pc' ls (x :: y :: x :: st))) : own_Got p e below P T (mkF m pc ls (x :: y :: st)) := by
  subst hp; exact own_go (fun _ q => XS.dupX1 X.here hx rfl (hb hby hd) rfl hc hc2 q) k
theorem g_pop (X : Stand p l e R s m args below meth c T locs cells slots) (hx : p.tables.exec = Jvm.exec) (hby : c.code = bytes) {x : Value} (hd : decode bytes pc = .ok (.pop, 1)) (hc : x.category = 1) (hp : pc + 1 = pc')
    (k : own_Got p e below P T (mkF m pc' ls (st))) : own_Got p e below P T (mkF m pc ls (x :: st)) := by
  subst hp; exact own_go (fun _ q => XS.pop X.here hx rfl (hb hby hd) rfl hc q) k
theorem g_dup2 (X : Stand p l e R s m args below meth c T locs cells slots) (hx : p.tables.exec = Jvm.exec) (hby : c.code = bytes) {x y : Value} (hd : decode bytes pc = .ok (.dup2, 1)) (hc : x.category = 1) (hc2 : y.category = 1) (hp : pc + 1 = pc')
    (k : own_Got p e below P T (mkF m pc' ls (x :: y :: x :: y :: st))) : own_Got p e below P T (mkF m pc ls (x :: y :: st)) := by
  subst hp; exact own_go (fun _ q => XT.dup2 X.here hx rfl (hb hby hd) rfl hc hc2 q) k
theorem g_goto (X : Stand p l e R s m args below meth c T locs cells slots) (hx : p.tables.exec = Jvm.exec) (hby : c.code = bytes) {o : Int} (hd : decode bytes pc = .ok (.goto o, 3))  (ho : 0 ≤ (pc : Int) + o) (hp : ((pc : Int) + o).toNat = pc')
    (k : own_Got p e below P T (mkF m pc' ls (st))) : own_Got p e below P T (mkF m pc ls (st)) := by
  exact own_go (fun _ q => XS.goto X.here hx rfl rfl (hb hby hd) ho hp q) k
theorem g_ifT (X : Stand p l e R s m args below meth c T locs cells slots) (hx : p.tables.exec = Jvm.exec) (hby : c.code = bytes) {cd : ClassFile.Cond} {x : Int32} {o : Int} (hd : decode bytes pc = .ok (.ifCond cd o, 3)) (hc : ifCond.holds cd x = true) (ho : 0 ≤ (pc : Int) + o) (hp : ((pc : Int) + o).toNat = pc')
    (k : own_Got p e below P T (mkF m pc' ls (st))) : own_Got p e below P T (mkF m pc ls (.int x :: st)) := by
  exact own_go (fun _ q => XS.ifYes X.here hx rfl rfl (hb hby hd) rfl hc ho hp q) k
theorem g_icT (X : Stand p l e R s m args below meth c T locs cells slots) (hx : p.tables.exec = Jvm.exec) (hby : c.code = bytes) {cd : ClassFile.Cond} {x y : Int32} {o : Int} (hd : decode bytes pc = .ok (.if_icmp cd o, 3)) (hc : if_icmp.holds cd x y = true) (ho : 0 ≤ (pc : Int) + o) (hp : ((pc : Int) + o).toNat = pc')
    (k : own_Got p e below P T (mkF m pc' ls (st))) : own_Got p e below P T (mkF m pc ls (.int y :: .int x :: st)) := by
  exact own_go (fun _ q => XS.icmpYes X.here hx rfl rfl (hb hby hd) rfl hc ho hp q) k
theorem g_inT (X : Stand p l e R s m args below meth c T locs cells slots) (hx : p.tables.exec = Jvm.exec) (hby : c.code = bytes) {o : Int} (hd : decode bytes pc = .ok (.ifnull o, 3))  (ho : 0 ≤ (pc : Int) + o) (hp : ((pc : Int) + o).toNat = pc')
    (k : own_Got p e below P T (mkF m pc' ls (st))) : own_Got p e below P T (mkF m pc ls (.null :: st)) := by
  exact own_go (fun _ q => XS.ifnullYes X.here hx rfl rfl (hb hby hd) rfl ho hp q) k
theorem g_innT (X : Stand p l e R s m args below meth c T locs cells slots) (hx : p.tables.exec = Jvm.exec) (hby : c.code = bytes) {b : Addr} {o : Int} (hd : decode bytes pc = .ok (.ifnonnull o, 3))  (ho : 0 ≤ (pc : Int) + o) (hp : ((pc : Int) + o).toNat = pc')
    (k : own_Got p e below P T (mkF m pc' ls (st))) : own_Got p e below P T (mkF m pc ls (.ref b :: st)) := by
  exact own_go (fun _ q => XS.ifnonnullYes X.here hx rfl rfl (hb hby hd) rfl ho hp q) k
theorem g_ifF (X : Stand p l e R s m args below meth c T locs cells slots) (hx : p.tables.exec = Jvm.exec) (hby : c.code = bytes) {cd : ClassFile.Cond} {o : Int} {x : Int32} (hd : decode bytes pc = .ok (.ifCond cd o, 3)) (hc : ifCond.holds cd x = false) (hp : pc + 3 = pc')
    (k : own_Got p e below P T (mkF m pc' ls (st))) : own_Got p e below P T (mkF m pc ls (.int x :: st)) := by
  subst hp; exact own_go (fun _ q => XS.ifNo X.here hx rfl (hb hby hd) rfl hc q) k
theorem g_icF (X : Stand p l e R s m args below meth c T locs cells slots) (hx : p.tables.exec = Jvm.exec) (hby : c.code = bytes) {cd : ClassFile.Cond} {o : Int} {x y : Int32} (hd : decode bytes pc = .ok (.if_icmp cd o, 3)) (hc : if_icmp.holds cd x y = false) (hp : pc + 3 = pc')
    (k : own_Got p e below P T (mkF m pc' ls (st))) : own_Got p e below P T (mkF m pc ls (.int y :: .int x :: st)) := by
  subst hp; exact own_go (fun _ q => XS.icmpNo X.here hx rfl (hb hby hd) rfl hc q) k
theorem g_inF (X : Stand p l e R s m args below meth c T locs cells slots) (hx : p.tables.exec = Jvm.exec) (hby : c.code = bytes) {o : Int} {b : Addr} (hd : decode bytes pc = .ok (.ifnull o, 3))  (hp : pc + 3 = pc')
    (k : own_Got p e below P T (mkF m pc' ls (st))) : own_Got p e below P T (mkF m pc ls (.ref b :: st)) := by
  subst hp; exact own_go (fun _ q => XS.ifnullNo X.here hx rfl (hb hby hd) rfl q) k
theorem g_innF (X : Stand p l e R s m args below meth c T locs cells slots) (hx : p.tables.exec = Jvm.exec) (hby : c.code = bytes) {o : Int} (hd : decode bytes pc = .ok (.ifnonnull o, 3))  (hp : pc + 3 = pc')
    (k : own_Got p e below P T (mkF m pc' ls (st))) : own_Got p e below P T (mkF m pc ls (.null :: st)) := by
  subst hp; exact own_go (fun _ q => XS.ifnonnullNo X.here hx rfl (hb hby hd) rfl q) k
theorem g_acmp (X : Stand p l e R s m args below meth c T locs cells slots) (hx : p.tables.exec = Jvm.exec) (hby : c.code = bytes) {cd : ACond} {x y : Value} {o : Int} (same : Bool) (hd : decode bytes pc = .ok (.if_acmp cd o, 3)) (h1 : x.isRef = true) (h2 : y.isRef = true) (hq : decide (x = y) = same) (ho : 0 ≤ (pc : Int) + o) (hp : pc' = if acV cd same = true then ((pc : Int) + o).toNat else pc + 3)
    (k : own_Got p e below P T (mkF m pc' ls st)) : own_Got p e below P T (mkF m pc ls (y :: x :: st)) :=
  own_go (fun _ q => Jvm.RoadKit.acmp X hx rfl h1 h2 rfl (hb hby hd) rfl hq ho hp q) k
theorem g_ldcI (X : Stand p l e R s m args below meth c T locs cells slots) (hx : p.tables.exec = Jvm.exec) (hby : c.code = bytes) (hZ : Z.Warmed39 s.vm) {own : String} {index : Nat} {v : Int32} (hown : s.vm.findClass own = some m.cls) (w : (Cond.constant own index v).before a0 Z = true) (hd : decode bytes pc = .ok (.ldc index, 2)) (hp : pc + 2 = pc')
    (k : own_Got p e below P T (mkF m pc' ls (.int v :: st))) : own_Got p e below P T (mkF m pc ls st) := by
  subst hp; exact own_go (X.ldcInt hx hown (mvT hZ w) rfl (hb hby hd)) k
theorem g_ldc2D (X : Stand p l e R s m args below meth c T locs cells slots) (hx : p.tables.exec = Jvm.exec) (hby : c.code = bytes) (hZ : Z.Warmed39 s.vm) {own : String} {index : Nat} {v : UInt64} (hown : s.vm.findClass own = some m.cls) (w : (Cond.constantDouble own index v).before a0 Z = true) (hd : decode bytes pc = .ok (.ldc2_w index, 3)) (hp : pc + 3 = pc')
    (k : own_Got p e below P T (mkF m pc' ls (.double v :: st))) : own_Got p e below P T (mkF m pc ls st) := by
  subst hp; exact own_go (X.ldc2DoubleC hx hown (mvT hZ w) rfl (hb hby hd)) k
theorem g_alen (X : Stand p l e R s m args below meth c T locs cells slots) (hx : p.tables.exec = Jvm.exec) (hby : c.code = bytes) (hZ : Z.Warmed39 s.vm) (eT : T.heap = h) {a : Addr} {kk : ClassId} {ty : FieldType} {n : Int32} {vs : List Value} {d : Value} (F : Arv Z h a kk ty n vs d) (hd : decode bytes pc = .ok (.arraylength, 1)) (hp : pc + 1 = pc')
    (k : own_Got p e below P T (mkF m pc' ls (.int n :: st))) : own_Got p e below P T (mkF m pc ls (.ref a :: st)) := by
  subst hp
  obtain ⟨cl, Ar, -, S, N, -, -⟩ := F
  refine own_go (fun t q => X.arraylength hx (by rw [eT]; exact Ar.1) (State.isArrayOf_alike hZ.alike Ar.2.1) (g := mkF m pc ls (.ref a :: st)) rfl rfl (hb hby hd) t q) ?_
  rw [len_of S N]; exact k
theorem g_iaload (X : Stand p l e R s m args below meth c T locs cells slots) (hx : p.tables.exec = Jvm.exec) (hby : c.code = bytes) (hZ : Z.Warmed39 s.vm) (eT : T.heap = h) {a : Addr} {kk : ClassId} {n : Int32} {vs : List Value} {d v : Value} {j : Int32} (F : Arv Z h a kk .int n vs d) (hj : ¬ j < 0 ∧ j < n) (hv : vs.getD j.toNatClampNeg d = v) (hd : decode bytes pc = .ok (.iaload, 1)) (hp : pc + 1 = pc')
    (k : own_Got p e below P T (mkF m pc' ls (v :: st))) : own_Got p e below P T (mkF m pc ls (.int j :: .ref a :: st)) := by
  subst hp
  obtain ⟨cl, Ar, -, S, N, H, -⟩ := F
  exact own_go (fun t q => X.iaload hx (by rw [eT]; exact Ar.1) (State.isArrayOf_alike hZ.alike Ar.2.1) Ar.2.2 (inb_of S hj) (H.at (inb_of S hj) hv) (g := mkF m pc ls (.int j :: .ref a :: st)) rfl rfl (hb hby hd) t q) k
theorem g_caload (X : Stand p l e R s m args below meth c T locs cells slots) (hx : p.tables.exec = Jvm.exec) (hby : c.code = bytes) (hZ : Z.Warmed39 s.vm) (eT : T.heap = h) {a : Addr} {kk : ClassId} {n : Int32} {vs : List Value} {d v : Value} {j : Int32} (F : Arv Z h a kk .char n vs d) (hj : ¬ j < 0 ∧ j < n) (hv : vs.getD j.toNatClampNeg d = v) (hd : decode bytes pc = .ok (.caload, 1)) (hp : pc + 1 = pc')
    (k : own_Got p e below P T (mkF m pc' ls (v :: st))) : own_Got p e below P T (mkF m pc ls (.int j :: .ref a :: st)) := by
  subst hp
  obtain ⟨cl, Ar, -, S, N, H, -⟩ := F
  exact own_go (fun t q => X.caload hx (by rw [eT]; exact Ar.1) (State.isArrayOf_alike hZ.alike Ar.2.1) Ar.2.2 (inb_of S hj) (H.at (inb_of S hj) hv) (g := mkF m pc ls (.int j :: .ref a :: st)) rfl rfl (hb hby hd) t q) k
theorem g_laload (X : Stand p l e R s m args below meth c T locs cells slots) (hx : p.tables.exec = Jvm.exec) (hby : c.code = bytes) (hZ : Z.Warmed39 s.vm) (eT : T.heap = h) {a : Addr} {kk : ClassId} {n : Int32} {vs : List Value} {d v : Value} {j : Int32} (F : Arv Z h a kk .long n vs d) (hj : ¬ j < 0 ∧ j < n) (hv : vs.getD j.toNatClampNeg d = v) (hd : decode bytes pc = .ok (.laload, 1)) (hp : pc + 1 = pc')
    (k : own_Got p e below P T (mkF m pc' ls (v :: st))) : own_Got p e below P T (mkF m pc ls (.int j :: .ref a :: st)) := by
  subst hp
  obtain ⟨cl, Ar, -, S, N, H, -⟩ := F
  exact own_go (fun t q => X.laload hx (by rw [eT]; exact Ar.1) (State.isArrayOf_alike hZ.alike Ar.2.1) Ar.2.2 (inb_of S hj) (H.at (inb_of S hj) hv) (g := mkF m pc ls (.int j :: .ref a :: st)) rfl rfl (hb hby hd) t q) k
theorem g_baload (X : Stand p l e R s m args below meth c T locs cells slots) (hx : p.tables.exec = Jvm.exec) (hby : c.code = bytes) (hZ : Z.Warmed39 s.vm) (eT : T.heap = h) {a : Addr} {kk : ClassId} {n : Int32} {vs : List Value} {d v : Value} {j : Int32} (F : Arv Z h a kk .byte n vs d) (hj : ¬ j < 0 ∧ j < n) (hv : vs.getD j.toNatClampNeg d = v) (hd : decode bytes pc = .ok (.baload, 1)) (hp : pc + 1 = pc')
    (k : own_Got p e below P T (mkF m pc' ls (v :: st))) : own_Got p e below P T (mkF m pc ls (.int j :: .ref a :: st)) := by
  subst hp
  obtain ⟨cl, Ar, -, S, N, H, -⟩ := F
  exact own_go (fun t q => X.baloadBytes hx (by rw [eT]; exact Ar.1) (State.isArrayOf_alike hZ.alike Ar.2.1) Ar.2.2 (inb_of S hj) (H.at (inb_of S hj) hv) (g := mkF m pc ls (.int j :: .ref a :: st)) rfl rfl (hb hby hd) t q) k
theorem g_daload (X : Stand p l e R s m args below meth c T locs cells slots) (hx : p.tables.exec = Jvm.exec) (hby : c.code = bytes) (hZ : Z.Warmed39 s.vm) (eT : T.heap = h) {a : Addr} {kk : ClassId} {n : Int32} {vs : List Value} {d v : Value} {j : Int32} (F : Arv Z h a kk .double n vs d) (hj : ¬ j < 0 ∧ j < n) (hv : vs.getD j.toNatClampNeg d = v) (hd : decode bytes pc = .ok (.daload, 1)) (hp : pc + 1 = pc')
    (k : own_Got p e below P T (mkF m pc' ls (v :: st))) : own_Got p e below P T (mkF m pc ls (.int j :: .ref a :: st)) := by
  subst hp
  obtain ⟨cl, Ar, -, S, N, H, -⟩ := F
  exact own_go (fun t q => X.daload hx (by rw [eT]; exact Ar.1) (State.isArrayOf_alike hZ.alike Ar.2.1) Ar.2.2 (inb_of S hj) (H.at (inb_of S hj) hv) (g := mkF m pc ls (.int j :: .ref a :: st)) rfl rfl (hb hby hd) t q) k
theorem g_aaload (X : Stand p l e R s m args below meth c T locs cells slots) (hx : p.tables.exec = Jvm.exec) (hby : c.code = bytes) (hZ : Z.Warmed39 s.vm) (eT : T.heap = h) {a : Addr} {kk : ClassId} {ty : FieldType} {n : Int32} {vs : List Value} {d v : Value} {j : Int32} (F : Arv Z h a kk ty n vs d) (ht : ty.isReference = true) (hj : ¬ j < 0 ∧ j < n) (hv : vs.getD j.toNatClampNeg d = v) (hd : decode bytes pc = .ok (.aaload, 1)) (hp : pc + 1 = pc')
    (k : own_Got p e below P T (mkF m pc' ls (v :: st))) : own_Got p e below P T (mkF m pc ls (.int j :: .ref a :: st)) := by
  subst hp
  obtain ⟨cl, Ar, -, S, N, H, -⟩ := F
  exact own_go (fun t q => X.aaload hx (by rw [eT]; exact Ar.1) (State.isArrayOf_alike hZ.alike Ar.2.1) ht Ar.2.2 (inb_of S hj) (H.at (inb_of S hj) hv) (g := mkF m pc ls (.int j :: .ref a :: st)) rfl rfl (hb hby hd) t q) k
theorem a_iastore (X : Stand p l e R s m args below meth c T locs cells slots) (hx : p.tables.exec = Jvm.exec) (hby : c.code = bytes) (hZ : Z.Warmed39 s.vm) (eT : T.heap = h) {a : Addr} {kk : ClassId} {n : Int32} {vs : List Value} {d : Value} {j : Int32} (x : Int32) (i : Nat) (F : Arv Z h a kk .int n vs d) (hj : ¬ j < 0 ∧ j < n) (hi : j.toNatClampNeg = i) (hl : i < vs.length) (hd : decode bytes pc = .ok (.iastore, 1)) :
    ∃ T' h', Stand p l e R s m args below meth c T' (locs ++ [⟨a, j.toNatClampNeg⟩]) cells slots ∧ T'.heap = h' ∧ Wr h h' a j.toNatClampNeg (.int x) ∧ Arv Z h' a kk .int n (vs.set i (.int x)) d ∧ ∀ t, Steps p.tables e below (T'.setTop (mkF m (pc + 1) ls st)) t → Steps p.tables e below (T.setTop (mkF m pc ls (.int x :: .int j :: .ref a :: st))) t := by
  obtain ⟨cl, Ar, q1, S, N, H, Gf⟩ := F
  obtain ⟨T', h', X', e', W, k⟩ := stI X hx hZ eT Ar (j := j) (inb_of S hj) (g := mkF m pc ls (.int x :: .int j :: .ref a :: st)) rfl rfl (hb hby hd)
  exact ⟨T', h', X', e', W, Arv.set Ar q1 S N H Gf (rfl) W i hi hl, k⟩
theorem a_castore (X : Stand p l e R s m args below meth c T locs cells slots) (hx : p.tables.exec = Jvm.exec) (hby : c.code = bytes) (hZ : Z.Warmed39 s.vm) (eT : T.heap = h) {a : Addr} {kk : ClassId} {n : Int32} {vs : List Value} {d : Value} {j : Int32} (x : Int32) (i : Nat) (F : Arv Z h a kk .char n vs d) (hj : ¬ j < 0 ∧ j < n) (hi : j.toNatClampNeg = i) (hl : i < vs.length) (hd : decode bytes pc = .ok (.castore, 1)) :
    ∃ T' h', Stand p l e R s m args below meth c T' (locs ++ [⟨a, j.toNatClampNeg⟩]) cells slots ∧ T'.heap = h' ∧ Wr h h' a j.toNatClampNeg (.int (nar .char x)) ∧ Arv Z h' a kk .char n (vs.set i (.int (nar .char x))) d ∧ ∀ t, Steps p.tables e below (T'.setTop (mkF m (pc + 1) ls st)) t → Steps p.tables e below (T.setTop (mkF m pc ls (.int x :: .int j :: .ref a :: st))) t := by
  obtain ⟨cl, Ar, q1, S, N, H, Gf⟩ := F
  obtain ⟨T', h', X', e', W, k⟩ := stC X hx hZ eT Ar (j := j) (inb_of S hj) (g := mkF m pc ls (.int x :: .int j :: .ref a :: st)) rfl rfl (hb hby hd)
  exact ⟨T', h', X', e', W, Arv.set Ar q1 S N H Gf (fits_nar_char _) W i hi hl, k⟩
theorem a_bastore (X : Stand p l e R s m args below meth c T locs cells slots) (hx : p.tables.exec = Jvm.exec) (hby : c.code = bytes) (hZ : Z.Warmed39 s.vm) (eT : T.heap = h) {a : Addr} {kk : ClassId} {n : Int32} {vs : List Value} {d : Value} {j : Int32} (x : Int32) (i : Nat) (F : Arv Z h a kk .byte n vs d) (hj : ¬ j < 0 ∧ j < n) (hi : j.toNatClampNeg = i) (hl : i < vs.length) (hd : decode bytes pc = .ok (.bastore, 1)) :
    ∃ T' h', Stand p l e R s m args below meth c T' (locs ++ [⟨a, j.toNatClampNeg⟩]) cells slots ∧ T'.heap = h' ∧ Wr h h' a j.toNatClampNeg (.int (nar .byte x)) ∧ Arv Z h' a kk .byte n (vs.set i (.int (nar .byte x))) d ∧ ∀ t, Steps p.tables e below (T'.setTop (mkF m (pc + 1) ls st)) t → Steps p.tables e below (T.setTop (mkF m pc ls (.int x :: .int j :: .ref a :: st))) t := by
  obtain ⟨cl, Ar, q1, S, N, H, Gf⟩ := F
  obtain ⟨T', h', X', e', W, k⟩ := stB X hx hZ eT Ar (j := j) (inb_of S hj) (g := mkF m pc ls (.int x :: .int j :: .ref a :: st)) rfl rfl (hb hby hd)
  exact ⟨T', h', X', e', W, Arv.set Ar q1 S N H Gf (fits_nar_byte _) W i hi hl, k⟩
theorem a_lastore (X : Stand p l e R s m args below meth c T locs cells slots) (hx : p.tables.exec = Jvm.exec) (hby : c.code = bytes) (hZ : Z.Warmed39 s.vm) (eT : T.heap = h) {a : Addr} {kk : ClassId} {n : Int32} {vs : List Value} {d : Value} {j : Int32} (x : Int64) (i : Nat) (F : Arv Z h a kk .long n vs d) (hj : ¬ j < 0 ∧ j < n) (hi : j.toNatClampNeg = i) (hl : i < vs.length) (hd : decode bytes pc = .ok (.lastore, 1)) :
    ∃ T' h', Stand p l e R s m args below meth c T' (locs ++ [⟨a, j.toNatClampNeg⟩]) cells slots ∧ T'.heap = h' ∧ Wr h h' a j.toNatClampNeg (.long x) ∧ Arv Z h' a kk .long n (vs.set i (.long x)) d ∧ ∀ t, Steps p.tables e below (T'.setTop (mkF m (pc + 1) ls st)) t → Steps p.tables e below (T.setTop (mkF m pc ls (.long x :: .int j :: .ref a :: st))) t := by
  obtain ⟨cl, Ar, q1, S, N, H, Gf⟩ := F
  obtain ⟨T', h', X', e', W, k⟩ := stJ X hx hZ eT Ar (j := j) (inb_of S hj) (g := mkF m pc ls (.long x :: .int j :: .ref a :: st)) rfl rfl (hb hby hd)
  exact ⟨T', h', X', e', W, Arv.set Ar q1 S N H Gf (rfl) W i hi hl, k⟩
theorem a_dastore (X : Stand p l e R s m args below meth c T locs cells slots) (hx : p.tables.exec = Jvm.exec) (hby : c.code = bytes) (hZ : Z.Warmed39 s.vm) (eT : T.heap = h) {a : Addr} {kk : ClassId} {n : Int32} {vs : List Value} {d : Value} {j : Int32} (x : UInt64) (i : Nat) (F : Arv Z h a kk .double n vs d) (hj : ¬ j < 0 ∧ j < n) (hi : j.toNatClampNeg = i) (hl : i < vs.length) (hd : decode bytes pc = .ok (.dastore, 1)) :
    ∃ T' h', Stand p l e R s m args below meth c T' (locs ++ [⟨a, j.toNatClampNeg⟩]) cells slots ∧ T'.heap = h' ∧ Wr h h' a j.toNatClampNeg (.double x) ∧ Arv Z h' a kk .double n (vs.set i (.double x)) d ∧ ∀ t, Steps p.tables e below (T'.setTop (mkF m (pc + 1) ls st)) t → Steps p.tables e below (T.setTop (mkF m pc ls (.double x :: .int j :: .ref a :: st))) t := by
  obtain ⟨cl, Ar, q1, S, N, H, Gf⟩ := F
  obtain ⟨T', h', X', e', W, k⟩ := stD X hx hZ eT Ar (j := j) (inb_of S hj) (g := mkF m pc ls (.double x :: .int j :: .ref a :: st)) rfl rfl (hb hby hd)
  exact ⟨T', h', X', e', W, Arv.set Ar q1 S N H Gf (rfl) W i hi hl, k⟩
theorem a_aastore (X : Stand p l e R s m args below meth c T locs cells slots) (hx : p.tables.exec = Jvm.exec) (hby : c.code = bytes) (hZ : Z.Warmed39 s.vm) (eT : T.heap = h) {a b : Addr} {kk : ClassId} {Cn : String} {n : Int32} {vs : List Value} {d : Value} {j : Int32} (i : Nat) (F : Arv Z h a kk (.object Cn) n vs d) (O : Ovr Z kk Cn) (I : Ins Z h b Cn true) (hj : ¬ j < 0 ∧ j < n) (hi : j.toNatClampNeg = i) (hl : i < vs.length) (hd : decode bytes pc = .ok (.aastore, 1)) :
    ∃ T' h', Stand p l e R s m args below meth c T' (locs ++ [⟨a, j.toNatClampNeg⟩]) cells slots ∧ T'.heap = h' ∧ Wr h h' a j.toNatClampNeg (.ref b) ∧ Arv Z h' a kk (.object Cn) n (vs.set i (.ref b)) d ∧ ∀ t, Steps p.tables e below (T'.setTop (mkF m (pc + 1) ls st)) t → Steps p.tables e below (T.setTop (mkF m pc ls (.ref b :: .int j :: .ref a :: st))) t := by
  obtain ⟨cl, Ar, q1, S, N, H, Gf⟩ := F
  obtain ⟨T', h', X', e', W, k⟩ := stR X hx hZ eT Ar (j := j) (inb_of S hj) rfl (Sto.ofV Ar q1 O I) (g := mkF m pc ls (.ref b :: .int j :: .ref a :: st)) rfl rfl (hb hby hd)
  exact ⟨T', h', X', e', W, Arv.set Ar q1 S N H Gf rfl W i hi hl, k⟩
theorem own_stakeep {C n d : String} {v : Value} {K : String} {a : Addr} (F : Sta Z h C n d v) (k : Keep h h' [a]) (E : Exa Z h a K) : Sta Z h' C n d v := by
  obtain ⟨cf, i, kk, f, st, cell, h1, h2, h3, h4, h5, h6, h7⟩ := F
  refine ⟨cf, i, kk, f, st, cell, h1, h2, h3, h4, k.2.1 _ _ h5 (fun q => ?_), h6, h7⟩
  obtain ⟨c2, k2, g1, -, -, g4, -⟩ := E
  cases List.mem_singleton.mp q
  cases h5.symm.trans g1
  rw [g4] at h6; cases h6
theorem own_stakeep0 {C n d : String} {v : Value} (F : Sta Z h C n d v) (k : Keep h h' []) : Sta Z h' C n d v := by
  obtain ⟨cf, i, kk, f, st, cell, h1, h2, h3, h4, h5, h6, h7⟩ := F
  exact ⟨cf, i, kk, f, st, cell, h1, h2, h3, h4, k.2.1 _ _ h5 nin0, h6, h7⟩
theorem own_eqI {t : Term} {first : State} {o : Option Outcome} {idx : List Nat} {z : Int32} (hq : (Cond.eq t (.int z)).value args first o s idx = some true) : t.eval args first o idx s = some (.int z) := by
  obtain ⟨x, y, hx, hy, kk, -⟩ := cmp_v (Or.inl hq)
  have hy' : y = .int z := Option.some.inj (hy.symm.trans rfl)
  subst hy'
  cases x with
  | int x => simp only [Cond.value, hx, hy] at hq; simp at hq; rw [hx, hq]
  | _ => simp [Kin, Value.isRef] at kk
theorem own_eqR {t u : Term} {first : State} {o : Option Outcome} {idx : List Nat} {b : Addr} (hq : (Cond.eq t u).value args first o s idx = some true) (hu : u.eval args first o idx s = some (.ref b)) : t.eval args first o idx s = some (.ref b) := by
  obtain ⟨x, y, hx, hy, kk, kk2⟩ := cmp_v (Or.inl hq)
  cases hu.symm.trans hy
  have hr : x.isRef = true := kk2.2
  have := gotT (eq_R hx hu hr rfl) hq
  rw [hx, this]
theorem g_i2d (X : Stand p l e R s m args below meth c T locs cells slots) (hx : p.tables.exec = Jvm.exec) (hby : c.code = bytes) {x : Int32} (hd : decode bytes pc = .ok (.i2d, 1))  (hp : pc + 1 = pc')
    (k : own_Got p e below P T (mkF m pc' ls (.double (FP.i2d x) :: st))) : own_Got p e below P T (mkF m pc ls (.int x :: st)) := by
  subst hp; exact own_go (fun _ q => XS.i2dS X.here hx rfl (hb hby hd) rfl rfl q) k
theorem g_dcmp (X : Stand p l e R s m args below meth c T locs cells slots) (hx : p.tables.exec = Jvm.exec) (hby : c.code = bytes) {o : CmpOp} {x y : UInt64} (hd : decode bytes pc = .ok (.dcmp o, 1))  (hp : pc + 1 = pc')
    (k : own_Got p e below P T (mkF m pc' ls (.int (cmpValue (FP.dcmp x y) o) :: st))) : own_Got p e below P T (mkF m pc ls (.double y :: .double x :: st)) := by
  subst hp; exact own_go (fun _ q => XS.dcmpS X.here hx rfl (hb hby hd) rfl rfl q) k
theorem g_dconst0 (X : Stand p l e R s m args below meth c T locs cells slots) (hx : p.tables.exec = Jvm.exec) (hby : c.code = bytes) (z : UInt64) (hd : decode bytes pc = .ok (.dconst 0, 1)) (hz : FP.dconst0 = z) (hp : pc + 1 = pc')
    (k : own_Got p e below P T (mkF m pc' ls (.double z :: st))) : own_Got p e below P T (mkF m pc ls (st)) := by
  subst hp; exact own_go (fun _ q => XS.dconst0 X.here hx rfl (hb hby hd) hz q) k
theorem g_dadd (X : Stand p l e R s m args below meth c T locs cells slots) (hx : p.tables.exec = Jvm.exec) (hby : c.code = bytes) {x y : UInt64} (hd : decode bytes pc = .ok (.dadd, 1)) (hn : Jvm.Free.Fl.NoNaN64 (FP.dadd x y)) (hp : pc + 1 = pc')
    (k : own_Got p e below P T (mkF m pc' ls (.double (FP.dadd x y) :: st))) : own_Got p e below P T (mkF m pc ls (.double y :: .double x :: st)) := by
  subst hp; exact own_go (fun _ q => XS.daddS X.here hx rfl (hb hby hd) rfl hn rfl q) k
theorem g_dsub (X : Stand p l e R s m args below meth c T locs cells slots) (hx : p.tables.exec = Jvm.exec) (hby : c.code = bytes) {x y : UInt64} (hd : decode bytes pc = .ok (.dsub, 1)) (hn : Jvm.Free.Fl.NoNaN64 (FP.dsub x y)) (hp : pc + 1 = pc')
    (k : own_Got p e below P T (mkF m pc' ls (.double (FP.dsub x y) :: st))) : own_Got p e below P T (mkF m pc ls (.double y :: .double x :: st)) := by
  subst hp; exact own_go (fun _ q => XS.dsubS X.here hx rfl (hb hby hd) rfl hn rfl q) k
theorem g_dmul (X : Stand p l e R s m args below meth c T locs cells slots) (hx : p.tables.exec = Jvm.exec) (hby : c.code = bytes) {x y : UInt64} (hd : decode bytes pc = .ok (.dmul, 1)) (hn : Jvm.Free.Fl.NoNaN64 (FP.dmul x y)) (hp : pc + 1 = pc')
    (k : own_Got p e below P T (mkF m pc' ls (.double (FP.dmul x y) :: st))) : own_Got p e below P T (mkF m pc ls (.double y :: .double x :: st)) := by
  subst hp; exact own_go (fun _ q => XS.dmulS X.here hx rfl (hb hby hd) rfl hn rfl q) k
theorem g_ddiv (X : Stand p l e R s m args below meth c T locs cells slots) (hx : p.tables.exec = Jvm.exec) (hby : c.code = bytes) {x y : UInt64} (hd : decode bytes pc = .ok (.ddiv, 1)) (hn : Jvm.Free.Fl.NoNaN64 (FP.ddiv x y)) (hp : pc + 1 = pc')
    (k : own_Got p e below P T (mkF m pc' ls (.double (FP.ddiv x y) :: st))) : own_Got p e below P T (mkF m pc ls (.double y :: .double x :: st)) := by
  subst hp; exact own_go (fun _ q => XS.ddivS X.here hx rfl (hb hby hd) rfl hn rfl q) k
theorem own_narR {t : FieldType} {w : Value} (ht : t.isReference = true) (hw : w.isRef = true) : narrow t w = w := by rcases ref_cases hw with rfl | ⟨a, rfl⟩ <;> cases t <;> first | rfl | (cases ht)
theorem own_fitR {t : FieldType} {w : Value} (ht : t.isReference = true) (hw : w.isRef = true) : fits t w = true := by rcases ref_cases hw with rfl | ⟨a, rfl⟩ <;> cases t <;> first | rfl | (cases ht)
theorem own_nb (x : Int32) : nar .byte (x.toInt8.toInt32) = x.toInt8.toInt32 := by
  show (x.toInt8.toInt32).toInt8.toInt32 = x.toInt8.toInt32
  simp
theorem own_nc (x : Int32) : nar .char (x.toUInt32.toUInt16.toUInt32.toInt32) = x.toUInt32.toUInt16.toUInt32.toInt32 := by
  show (x.toUInt32.toUInt16.toUInt32.toInt32).toUInt32.toUInt16.toUInt32.toInt32 = _
  have q : ∀ u : UInt16, u.toUInt32.toInt32.toUInt32.toUInt16 = u := fun u => by simp
  rw [q]
end OwnKit
def own_pick (p0 p1 p2 p3 : UInt64) (j : Int32) : UInt64 := if j = 0 then p0 else if j = 1 then p1 else if j = 2 then p2 else p3
theorem own_four {j : Int32} (h0 : ¬ (j < (0 : Int32))) (h1 : j < (4 : Int32)) : j = 0 ∨ j = 1 ∨ j = 2 ∨ j = 3 := by
  rw [Int32.lt_iff_toInt_lt] at h0 h1
  have e0 : (0 : Int32).toInt = 0 := rfl
  have e4 : (4 : Int32).toInt = 4 := rfl
  have h3 : j.toInt = 0 ∨ j.toInt = 1 ∨ j.toInt = 2 ∨ j.toInt = 3 := by omega
  simp only [← Int32.toInt_inj]
  exact h3
theorem own_pick_at {p0 p1 p2 p3 : UInt64} {j : Int32} (h0 : ¬ (j < (0 : Int32))) (h1 : j < (4 : Int32)) : ([(.double p0), (.double p1), (.double p2), (.double p3)] : List Value).getD j.toNatClampNeg (.double (0 : UInt64)) = .double (own_pick p0 p1 p2 p3 j) := by
  rcases own_four h0 h1 with rfl | rfl | rfl | rfl <;> rfl
theorem own_and3 (x : Int32) : ¬ ((x &&& (3 : Int32)) < (0 : Int32)) ∧ (x &&& (3 : Int32)) < (4 : Int32) := by
  have h := c_and x 3 (by decide)
  have h7 : (3 : Int32).toInt = 3 := by decide
  rw [Int32.lt_iff_toInt_lt, Int32.lt_iff_toInt_lt]
  have e0 : (0 : Int32).toInt = 0 := rfl
  have e4 : (4 : Int32).toInt = 4 := rfl
  omega

theorem d_held_0 : decode prog_77_method_2_code 0 = .ok (.aload_n 0, 1) := by decide +kernel
theorem d_held_1 : decode prog_77_method_2_code 1 = .ok (.iconst 0, 1) := by decide +kernel
theorem d_held_2 : decode prog_77_method_2_code 2 = .ok (.iaload, 1) := by decide +kernel
theorem d_held_3 : decode prog_77_method_2_code 3 = .ok (.istore_n 2, 1) := by decide +kernel
theorem d_held_4 : decode prog_77_method_2_code 4 = .ok (.aload_n 0, 1) := by decide +kernel
theorem d_held_5 : decode prog_77_method_2_code 5 = .ok (.astore_n 3, 1) := by decide +kernel
theorem d_held_6 : decode prog_77_method_2_code 6 = .ok (.aload_n 3, 1) := by decide +kernel
theorem d_held_7 : decode prog_77_method_2_code 7 = .ok (.arraylength, 1) := by decide +kernel
theorem d_held_8 : decode prog_77_method_2_code 8 = .ok (.istore 4, 2) := by decide +kernel
theorem d_held_10 : decode prog_77_method_2_code 10 = .ok (.iconst 0, 1) := by decide +kernel
theorem d_held_11 : decode prog_77_method_2_code 11 = .ok (.istore 5, 2) := by decide +kernel
theorem d_held_13 : decode prog_77_method_2_code 13 = .ok (.iload 5, 2) := by decide +kernel
theorem d_held_15 : decode prog_77_method_2_code 15 = .ok (.iload 4, 2) := by decide +kernel
theorem d_held_17 : decode prog_77_method_2_code 17 = .ok (.if_icmp .ge 29, 3) := by decide +kernel
theorem d_held_20 : decode prog_77_method_2_code 20 = .ok (.aload_n 3, 1) := by decide +kernel
theorem d_held_21 : decode prog_77_method_2_code 21 = .ok (.iload 5, 2) := by decide +kernel
theorem d_held_23 : decode prog_77_method_2_code 23 = .ok (.iaload, 1) := by decide +kernel
theorem d_held_24 : decode prog_77_method_2_code 24 = .ok (.istore 6, 2) := by decide +kernel
theorem d_held_26 : decode prog_77_method_2_code 26 = .ok (.aload_n 1, 1) := by decide +kernel
theorem d_held_27 : decode prog_77_method_2_code 27 = .ok (.iload 6, 2) := by decide +kernel
theorem d_held_29 : decode prog_77_method_2_code 29 = .ok (.daload, 1) := by decide +kernel
theorem d_held_30 : decode prog_77_method_2_code 30 = .ok (.aload_n 1, 1) := by decide +kernel
theorem d_held_31 : decode prog_77_method_2_code 31 = .ok (.iload_n 2, 1) := by decide +kernel
theorem d_held_32 : decode prog_77_method_2_code 32 = .ok (.daload, 1) := by decide +kernel
theorem d_held_33 : decode prog_77_method_2_code 33 = .ok (.dcmp .l, 1) := by decide +kernel
theorem d_held_34 : decode prog_77_method_2_code 34 = .ok (.ifCond .le 6, 3) := by decide +kernel
theorem d_held_37 : decode prog_77_method_2_code 37 = .ok (.iload 6, 2) := by decide +kernel
theorem d_held_39 : decode prog_77_method_2_code 39 = .ok (.istore_n 2, 1) := by decide +kernel
theorem d_held_40 : decode prog_77_method_2_code 40 = .ok (.iinc 5 1, 3) := by decide +kernel
theorem d_held_43 : decode prog_77_method_2_code 43 = .ok (.goto (-30), 3) := by decide +kernel
theorem d_held_46 : decode prog_77_method_2_code 46 = .ok (.iload_n 2, 1) := by decide +kernel
theorem d_held_47 : decode prog_77_method_2_code 47 = .ok (.ireturn, 1) := by decide +kernel
theorem pn0 : plainName "com/example/markov_lumper/markovlumper/solver/ErrorBound" = true := by first | (simp [plainName, overriddenIn]; done) | decide +kernel
theorem ef_held (m : MethodId) (a0 : Addr) (a1 : Addr) : entryFrame m #[(.ref a0), (.ref a1)] 7 = mkF m 0 #[.val (.ref a0), .val (.ref a1), .unset, .unset, .unset, .unset, .unset] [] := by first | (simp [entryFrame, mkF, argsToLocals, Value.category]; done) | rfl
def F_held (m0 : Int32) (m1 : Int32) (m2 : Int32) (p0 : UInt64) (p1 : UInt64) (p2 : UInt64) (p3 : UInt64) : Int32 := if (0 : Int32) < (cmpValue (FP.dcmp (own_pick p0 p1 p2 p3 m0) (own_pick p0 p1 p2 p3 m0)) .l) then (if (0 : Int32) < (cmpValue (FP.dcmp (own_pick p0 p1 p2 p3 m1) (own_pick p0 p1 p2 p3 m0)) .l) then (if (0 : Int32) < (cmpValue (FP.dcmp (own_pick p0 p1 p2 p3 m2) (own_pick p0 p1 p2 p3 m1)) .l) then (m2) else (m1)) else (if (0 : Int32) < (cmpValue (FP.dcmp (own_pick p0 p1 p2 p3 m2) (own_pick p0 p1 p2 p3 m0)) .l) then (m2) else (m0))) else (if (0 : Int32) < (cmpValue (FP.dcmp (own_pick p0 p1 p2 p3 m1) (own_pick p0 p1 p2 p3 m0)) .l) then (if (0 : Int32) < (cmpValue (FP.dcmp (own_pick p0 p1 p2 p3 m2) (own_pick p0 p1 p2 p3 m1)) .l) then (m2) else (m1)) else (if (0 : Int32) < (cmpValue (FP.dcmp (own_pick p0 p1 p2 p3 m2) (own_pick p0 p1 p2 p3 m0)) .l) then (m2) else (m0)))
def Q_held (Z : State) (a0 : Addr) (a1 : Addr) (k0 : ClassId) (k1 : ClassId) (m0 : Int32) (m1 : Int32) (m2 : Int32) (p0 : UInt64) (p1 : UInt64) (p2 : UInt64) (p3 : UInt64) (h0 : Heap) (n0 : Nat) (v : Option Value) (h : Heap) (L : List Loc) : Prop := v = some (.int (F_held m0 m1 m2 p0 p1 p2 p3)) ∧ Fr n0 L ∧ h = h0
set_option maxRecDepth 65536 in
set_option maxHeartbeats 40000000 in
theorem rm_held (l : Launch) (Z : State) (aT : Array Value) (hw : ∀ d ∈ tables_1, d.before aT Z = true) (ws : List Jvm.Cond) (a0 : Addr) (a1 : Addr) (k0 : ClassId) (k1 : ClassId) (m0 : Int32) (m1 : Int32) (m2 : Int32) (p0 : UInt64) (p1 : UInt64) (p2 : UInt64) (p3 : UInt64) (h0 : Heap) (n0 : Nat) (Z0 : n0 ≤ h0.size) (hp0 : Arv Z h0 a0 k0 .int (3 : Int32) [(.int m0), (.int m1), (.int m2)] (.int (0 : Int32))) (hp1 : Arv Z h0 a1 k1 .double (4 : Int32) [(.double p0), (.double p1), (.double p2), (.double p3)] (.double (0 : UInt64))) (lom0 : ¬ (m0 < (0 : Int32))) (him0 : m0 < (4 : Int32)) (lom1 : ¬ (m1 < (0 : Int32))) (him1 : m1 < (4 : Int32)) (lom2 : ¬ (m2 < (0 : Int32))) (him2 : m2 < (4 : Int32)) :
    MetFree l (⟨"com/example/markov_lumper/markovlumper/solver/ErrorBound", "heldMember", "([I[D)I"⟩ : MethodName) (head1 (Jvm.Cond.code (⟨"com/example/markov_lumper/markovlumper/solver/ErrorBound", "heldMember", "([I[D)I"⟩ : MethodName) prog_77_method_2_code 7 (some .int) :: ws) ({ frames := 0, cells := 0, slots := 0, locals := 0 } : Room)) (fun a U => a = #[(.ref a0), (.ref a1)] ∧ Z.Warmed39 U.vm ∧ U.heap = h0) (fun _ _ _ _ _ => True) (fun _ U o U' => ∃ v L, o = .returned v ∧ Q_held Z a0 a1 k0 k1 m0 m1 m2 p0 p1 p2 p3 h0 n0 v U'.heap L ∧ FrameEnd U o U' L ({ frames := 0, cells := 0, slots := 0, locals := 0 } : Room).cells ({ frames := 0, cells := 0, slots := 0, locals := 0 } : Room).slots) := by
  refine MetFree.of_bodySF (plainFor_of_name pn0) hisR ?_
  intro p e s m args below meth c s₁ Bd hml0 hP hK
  obtain ⟨rfl, hZ, hh⟩ := hP
  have hx := Bd.exec
  have hby := Bd.bytes
  have hml : c.maxLocals = 7 := hml0
  have hown : s.vm.findClass "com/example/markov_lumper/markovlumper/solver/ErrorBound" = some m.cls := findClass_of_methodNamed Bd.named
  have hnm := (name_of_methodNamed Bd.named Bd.method).1
  have hlk := Bd.notSynchronized
  have hrt := Bd.returns
  have X0 : Stand p l e ({ frames := 0, cells := 0, slots := 0, locals := 0 } : Room) s m #[(.ref a0), (.ref a1)] below meth c s₁ [] 0 0 := Stand.of_body Bd
  have e0 : s₁.heap = h0 := by rw [← hh, Bd.state]; rfl
  have N0 := Fr.nil n0
  refine own_cast (P := own_End s (Q_held Z a0 a1 k0 k1 m0 m1 m2 p0 p1 p2 p3 h0 n0) ({ frames := 0, cells := 0, slots := 0, locals := 0 } : Room).cells ({ frames := 0, cells := 0, slots := 0, locals := 0 } : Room).slots) (ef_held m a0 a1) ?_
  refine g_aloadN X0 hx hby d_held_0 rfl rfl (rfl : 0 + 1 = 1) ?_
  refine g_iconst X0 hx hby (0 : Int32) d_held_1 (by decide) (rfl : 1 + 1 = 2) ?_
  refine g_iaload X0 hx hby hZ e0 (v := (.int m0)) hp0 ⟨by decide, by decide⟩ rfl d_held_2 (rfl : 2 + 1 = 3) ?_
  refine g_istoreN X0 hx hby #[.val (.ref a0), .val (.ref a1), .val (.int m0), .unset, .unset, .unset, .unset] d_held_3 rfl (rfl : 3 + 1 = 4) ?_
  refine g_aloadN X0 hx hby d_held_4 rfl rfl (rfl : 4 + 1 = 5) ?_
  refine g_astoreN X0 hx hby #[.val (.ref a0), .val (.ref a1), .val (.int m0), .val (.ref a0), .unset, .unset, .unset] d_held_5 rfl rfl (rfl : 5 + 1 = 6) ?_
  refine g_aloadN X0 hx hby d_held_6 rfl rfl (rfl : 6 + 1 = 7) ?_
  refine g_alen X0 hx hby hZ e0 hp0 d_held_7 (rfl : 7 + 1 = 8) ?_
  refine g_istore X0 hx hby #[.val (.ref a0), .val (.ref a1), .val (.int m0), .val (.ref a0), .val (.int (3 : Int32)), .unset, .unset] d_held_8 rfl (rfl : 8 + 2 = 10) ?_
  refine g_iconst X0 hx hby (0 : Int32) d_held_10 (by decide) (rfl : 10 + 1 = 11) ?_
  refine g_istore X0 hx hby #[.val (.ref a0), .val (.ref a1), .val (.int m0), .val (.ref a0), .val (.int (3 : Int32)), .val (.int (0 : Int32)), .unset] d_held_11 rfl (rfl : 11 + 2 = 13) ?_
  refine g_iload X0 hx hby d_held_13 rfl (rfl : 13 + 2 = 15) ?_
  refine g_iload X0 hx hby d_held_15 rfl (rfl : 15 + 2 = 17) ?_
  refine g_icF X0 hx hby d_held_17 (tlt (by decide : (0 : Int32) < (3 : Int32))).2.1 (rfl : 17 + 3 = 20) ?_
  refine g_aloadN X0 hx hby d_held_20 rfl rfl (rfl : 20 + 1 = 21) ?_
  refine g_iload X0 hx hby d_held_21 rfl (rfl : 21 + 2 = 23) ?_
  refine g_iaload X0 hx hby hZ e0 (v := (.int m0)) hp0 ⟨by decide, by decide⟩ rfl d_held_23 (rfl : 23 + 1 = 24) ?_
  refine g_istore X0 hx hby #[.val (.ref a0), .val (.ref a1), .val (.int m0), .val (.ref a0), .val (.int (3 : Int32)), .val (.int (0 : Int32)), .val (.int m0)] d_held_24 rfl (rfl : 24 + 2 = 26) ?_
  refine g_aloadN X0 hx hby d_held_26 rfl rfl (rfl : 26 + 1 = 27) ?_
  refine g_iload X0 hx hby d_held_27 rfl (rfl : 27 + 2 = 29) ?_
  refine g_daload X0 hx hby hZ e0 (v := (.double (own_pick p0 p1 p2 p3 m0))) hp1 ⟨lom0, him0⟩ (own_pick_at lom0 him0) d_held_29 (rfl : 29 + 1 = 30) ?_
  refine g_aloadN X0 hx hby d_held_30 rfl rfl (rfl : 30 + 1 = 31) ?_
  refine g_iloadN X0 hx hby d_held_31 rfl (rfl : 31 + 1 = 32) ?_
  refine g_daload X0 hx hby hZ e0 (v := (.double (own_pick p0 p1 p2 p3 m0))) hp1 ⟨lom0, him0⟩ (own_pick_at lom0 him0) d_held_32 (rfl : 32 + 1 = 33) ?_
  refine g_dcmp X0 hx hby d_held_33 (rfl : 33 + 1 = 34) ?_
  by_cases c1 : (0 : Int32) < (cmpValue (FP.dcmp (own_pick p0 p1 p2 p3 m0) (own_pick p0 p1 p2 p3 m0)) .l)
  · refine g_ifF X0 hx hby d_held_34 ((if0 _ _).trans (tlt c1).2.2.2) (rfl : 34 + 3 = 37) ?_
    refine g_iload X0 hx hby d_held_37 rfl (rfl : 37 + 2 = 39) ?_
    refine g_istoreN X0 hx hby #[.val (.ref a0), .val (.ref a1), .val (.int m0), .val (.ref a0), .val (.int (3 : Int32)), .val (.int (0 : Int32)), .val (.int m0)] d_held_39 rfl (rfl : 39 + 1 = 40) ?_
    refine g_iinc X0 hx hby #[.val (.ref a0), .val (.ref a1), .val (.int m0), .val (.ref a0), .val (.int (3 : Int32)), .val (.int ((0 : Int32) + (1 : Int32))), .val (.int m0)] d_held_40 rfl rfl (rfl : 40 + 3 = 43) ?_
    rw [(by decide : ((0 : Int32) + (1 : Int32)) = (1 : Int32))]
    refine g_goto X0 hx hby d_held_43 (by decide) (pc' := 13) (by decide) ?_
    refine g_iload X0 hx hby d_held_13 rfl (rfl : 13 + 2 = 15) ?_
    refine g_iload X0 hx hby d_held_15 rfl (rfl : 15 + 2 = 17) ?_
    refine g_icF X0 hx hby d_held_17 (tlt (by decide : (1 : Int32) < (3 : Int32))).2.1 (rfl : 17 + 3 = 20) ?_
    refine g_aloadN X0 hx hby d_held_20 rfl rfl (rfl : 20 + 1 = 21) ?_
    refine g_iload X0 hx hby d_held_21 rfl (rfl : 21 + 2 = 23) ?_
    refine g_iaload X0 hx hby hZ e0 (v := (.int m1)) hp0 ⟨by decide, by decide⟩ rfl d_held_23 (rfl : 23 + 1 = 24) ?_
    refine g_istore X0 hx hby #[.val (.ref a0), .val (.ref a1), .val (.int m0), .val (.ref a0), .val (.int (3 : Int32)), .val (.int (1 : Int32)), .val (.int m1)] d_held_24 rfl (rfl : 24 + 2 = 26) ?_
    refine g_aloadN X0 hx hby d_held_26 rfl rfl (rfl : 26 + 1 = 27) ?_
    refine g_iload X0 hx hby d_held_27 rfl (rfl : 27 + 2 = 29) ?_
    refine g_daload X0 hx hby hZ e0 (v := (.double (own_pick p0 p1 p2 p3 m1))) hp1 ⟨lom1, him1⟩ (own_pick_at lom1 him1) d_held_29 (rfl : 29 + 1 = 30) ?_
    refine g_aloadN X0 hx hby d_held_30 rfl rfl (rfl : 30 + 1 = 31) ?_
    refine g_iloadN X0 hx hby d_held_31 rfl (rfl : 31 + 1 = 32) ?_
    refine g_daload X0 hx hby hZ e0 (v := (.double (own_pick p0 p1 p2 p3 m0))) hp1 ⟨lom0, him0⟩ (own_pick_at lom0 him0) d_held_32 (rfl : 32 + 1 = 33) ?_
    refine g_dcmp X0 hx hby d_held_33 (rfl : 33 + 1 = 34) ?_
    by_cases c2 : (0 : Int32) < (cmpValue (FP.dcmp (own_pick p0 p1 p2 p3 m1) (own_pick p0 p1 p2 p3 m0)) .l)
    · refine g_ifF X0 hx hby d_held_34 ((if0 _ _).trans (tlt c2).2.2.2) (rfl : 34 + 3 = 37) ?_
      refine g_iload X0 hx hby d_held_37 rfl (rfl : 37 + 2 = 39) ?_
      refine g_istoreN X0 hx hby #[.val (.ref a0), .val (.ref a1), .val (.int m1), .val (.ref a0), .val (.int (3 : Int32)), .val (.int (1 : Int32)), .val (.int m1)] d_held_39 rfl (rfl : 39 + 1 = 40) ?_
      refine g_iinc X0 hx hby #[.val (.ref a0), .val (.ref a1), .val (.int m1), .val (.ref a0), .val (.int (3 : Int32)), .val (.int ((1 : Int32) + (1 : Int32))), .val (.int m1)] d_held_40 rfl rfl (rfl : 40 + 3 = 43) ?_
      rw [(by decide : ((1 : Int32) + (1 : Int32)) = (2 : Int32))]
      refine g_goto X0 hx hby d_held_43 (by decide) (pc' := 13) (by decide) ?_
      refine g_iload X0 hx hby d_held_13 rfl (rfl : 13 + 2 = 15) ?_
      refine g_iload X0 hx hby d_held_15 rfl (rfl : 15 + 2 = 17) ?_
      refine g_icF X0 hx hby d_held_17 (tlt (by decide : (2 : Int32) < (3 : Int32))).2.1 (rfl : 17 + 3 = 20) ?_
      refine g_aloadN X0 hx hby d_held_20 rfl rfl (rfl : 20 + 1 = 21) ?_
      refine g_iload X0 hx hby d_held_21 rfl (rfl : 21 + 2 = 23) ?_
      refine g_iaload X0 hx hby hZ e0 (v := (.int m2)) hp0 ⟨by decide, by decide⟩ rfl d_held_23 (rfl : 23 + 1 = 24) ?_
      refine g_istore X0 hx hby #[.val (.ref a0), .val (.ref a1), .val (.int m1), .val (.ref a0), .val (.int (3 : Int32)), .val (.int (2 : Int32)), .val (.int m2)] d_held_24 rfl (rfl : 24 + 2 = 26) ?_
      refine g_aloadN X0 hx hby d_held_26 rfl rfl (rfl : 26 + 1 = 27) ?_
      refine g_iload X0 hx hby d_held_27 rfl (rfl : 27 + 2 = 29) ?_
      refine g_daload X0 hx hby hZ e0 (v := (.double (own_pick p0 p1 p2 p3 m2))) hp1 ⟨lom2, him2⟩ (own_pick_at lom2 him2) d_held_29 (rfl : 29 + 1 = 30) ?_
      refine g_aloadN X0 hx hby d_held_30 rfl rfl (rfl : 30 + 1 = 31) ?_
      refine g_iloadN X0 hx hby d_held_31 rfl (rfl : 31 + 1 = 32) ?_
      refine g_daload X0 hx hby hZ e0 (v := (.double (own_pick p0 p1 p2 p3 m1))) hp1 ⟨lom1, him1⟩ (own_pick_at lom1 him1) d_held_32 (rfl : 32 + 1 = 33) ?_
      refine g_dcmp X0 hx hby d_held_33 (rfl : 33 + 1 = 34) ?_
      by_cases c3 : (0 : Int32) < (cmpValue (FP.dcmp (own_pick p0 p1 p2 p3 m2) (own_pick p0 p1 p2 p3 m1)) .l)
      · refine g_ifF X0 hx hby d_held_34 ((if0 _ _).trans (tlt c3).2.2.2) (rfl : 34 + 3 = 37) ?_
        refine g_iload X0 hx hby d_held_37 rfl (rfl : 37 + 2 = 39) ?_
        refine g_istoreN X0 hx hby #[.val (.ref a0), .val (.ref a1), .val (.int m2), .val (.ref a0), .val (.int (3 : Int32)), .val (.int (2 : Int32)), .val (.int m2)] d_held_39 rfl (rfl : 39 + 1 = 40) ?_
        refine g_iinc X0 hx hby #[.val (.ref a0), .val (.ref a1), .val (.int m2), .val (.ref a0), .val (.int (3 : Int32)), .val (.int ((2 : Int32) + (1 : Int32))), .val (.int m2)] d_held_40 rfl rfl (rfl : 40 + 3 = 43) ?_
        rw [(by decide : ((2 : Int32) + (1 : Int32)) = (3 : Int32))]
        refine g_goto X0 hx hby d_held_43 (by decide) (pc' := 13) (by decide) ?_
        refine g_iload X0 hx hby d_held_13 rfl (rfl : 13 + 2 = 15) ?_
        refine g_iload X0 hx hby d_held_15 rfl (rfl : 15 + 2 = 17) ?_
        refine g_icT X0 hx hby d_held_17 (flt (by decide : ¬ ((3 : Int32) < (3 : Int32)))).2.1 (by decide) (pc' := 46) (by decide) ?_
        refine g_iloadN X0 hx hby d_held_46 rfl (rfl : 46 + 1 = 47) ?_
        refine own_retI X0 hx hby hlk hrt d_held_47 (by decide) (by decide) ?_
        show Q_held Z a0 a1 k0 k1 m0 m1 m2 p0 p1 p2 p3 h0 n0 _ s₁.heap _
        exact ⟨(congrArg (fun z => some (Value.int z)) (by rw [F_held, if_pos c1, if_pos c2, if_pos c3] <;> rfl)), N0, e0⟩
      · refine g_ifT X0 hx hby d_held_34 ((if0 _ _).trans (flt c3).2.2.2) (by decide) (pc' := 40) (by decide) ?_
        refine g_iinc X0 hx hby #[.val (.ref a0), .val (.ref a1), .val (.int m1), .val (.ref a0), .val (.int (3 : Int32)), .val (.int ((2 : Int32) + (1 : Int32))), .val (.int m2)] d_held_40 rfl rfl (rfl : 40 + 3 = 43) ?_
        rw [(by decide : ((2 : Int32) + (1 : Int32)) = (3 : Int32))]
        refine g_goto X0 hx hby d_held_43 (by decide) (pc' := 13) (by decide) ?_
        refine g_iload X0 hx hby d_held_13 rfl (rfl : 13 + 2 = 15) ?_
        refine g_iload X0 hx hby d_held_15 rfl (rfl : 15 + 2 = 17) ?_
        refine g_icT X0 hx hby d_held_17 (flt (by decide : ¬ ((3 : Int32) < (3 : Int32)))).2.1 (by decide) (pc' := 46) (by decide) ?_
        refine g_iloadN X0 hx hby d_held_46 rfl (rfl : 46 + 1 = 47) ?_
        refine own_retI X0 hx hby hlk hrt d_held_47 (by decide) (by decide) ?_
        show Q_held Z a0 a1 k0 k1 m0 m1 m2 p0 p1 p2 p3 h0 n0 _ s₁.heap _
        exact ⟨(congrArg (fun z => some (Value.int z)) (by rw [F_held, if_pos c1, if_pos c2, if_neg c3] <;> rfl)), N0, e0⟩
    · refine g_ifT X0 hx hby d_held_34 ((if0 _ _).trans (flt c2).2.2.2) (by decide) (pc' := 40) (by decide) ?_
      refine g_iinc X0 hx hby #[.val (.ref a0), .val (.ref a1), .val (.int m0), .val (.ref a0), .val (.int (3 : Int32)), .val (.int ((1 : Int32) + (1 : Int32))), .val (.int m1)] d_held_40 rfl rfl (rfl : 40 + 3 = 43) ?_
      rw [(by decide : ((1 : Int32) + (1 : Int32)) = (2 : Int32))]
      refine g_goto X0 hx hby d_held_43 (by decide) (pc' := 13) (by decide) ?_
      refine g_iload X0 hx hby d_held_13 rfl (rfl : 13 + 2 = 15) ?_
      refine g_iload X0 hx hby d_held_15 rfl (rfl : 15 + 2 = 17) ?_
      refine g_icF X0 hx hby d_held_17 (tlt (by decide : (2 : Int32) < (3 : Int32))).2.1 (rfl : 17 + 3 = 20) ?_
      refine g_aloadN X0 hx hby d_held_20 rfl rfl (rfl : 20 + 1 = 21) ?_
      refine g_iload X0 hx hby d_held_21 rfl (rfl : 21 + 2 = 23) ?_
      refine g_iaload X0 hx hby hZ e0 (v := (.int m2)) hp0 ⟨by decide, by decide⟩ rfl d_held_23 (rfl : 23 + 1 = 24) ?_
      refine g_istore X0 hx hby #[.val (.ref a0), .val (.ref a1), .val (.int m0), .val (.ref a0), .val (.int (3 : Int32)), .val (.int (2 : Int32)), .val (.int m2)] d_held_24 rfl (rfl : 24 + 2 = 26) ?_
      refine g_aloadN X0 hx hby d_held_26 rfl rfl (rfl : 26 + 1 = 27) ?_
      refine g_iload X0 hx hby d_held_27 rfl (rfl : 27 + 2 = 29) ?_
      refine g_daload X0 hx hby hZ e0 (v := (.double (own_pick p0 p1 p2 p3 m2))) hp1 ⟨lom2, him2⟩ (own_pick_at lom2 him2) d_held_29 (rfl : 29 + 1 = 30) ?_
      refine g_aloadN X0 hx hby d_held_30 rfl rfl (rfl : 30 + 1 = 31) ?_
      refine g_iloadN X0 hx hby d_held_31 rfl (rfl : 31 + 1 = 32) ?_
      refine g_daload X0 hx hby hZ e0 (v := (.double (own_pick p0 p1 p2 p3 m0))) hp1 ⟨lom0, him0⟩ (own_pick_at lom0 him0) d_held_32 (rfl : 32 + 1 = 33) ?_
      refine g_dcmp X0 hx hby d_held_33 (rfl : 33 + 1 = 34) ?_
      by_cases c4 : (0 : Int32) < (cmpValue (FP.dcmp (own_pick p0 p1 p2 p3 m2) (own_pick p0 p1 p2 p3 m0)) .l)
      · refine g_ifF X0 hx hby d_held_34 ((if0 _ _).trans (tlt c4).2.2.2) (rfl : 34 + 3 = 37) ?_
        refine g_iload X0 hx hby d_held_37 rfl (rfl : 37 + 2 = 39) ?_
        refine g_istoreN X0 hx hby #[.val (.ref a0), .val (.ref a1), .val (.int m2), .val (.ref a0), .val (.int (3 : Int32)), .val (.int (2 : Int32)), .val (.int m2)] d_held_39 rfl (rfl : 39 + 1 = 40) ?_
        refine g_iinc X0 hx hby #[.val (.ref a0), .val (.ref a1), .val (.int m2), .val (.ref a0), .val (.int (3 : Int32)), .val (.int ((2 : Int32) + (1 : Int32))), .val (.int m2)] d_held_40 rfl rfl (rfl : 40 + 3 = 43) ?_
        rw [(by decide : ((2 : Int32) + (1 : Int32)) = (3 : Int32))]
        refine g_goto X0 hx hby d_held_43 (by decide) (pc' := 13) (by decide) ?_
        refine g_iload X0 hx hby d_held_13 rfl (rfl : 13 + 2 = 15) ?_
        refine g_iload X0 hx hby d_held_15 rfl (rfl : 15 + 2 = 17) ?_
        refine g_icT X0 hx hby d_held_17 (flt (by decide : ¬ ((3 : Int32) < (3 : Int32)))).2.1 (by decide) (pc' := 46) (by decide) ?_
        refine g_iloadN X0 hx hby d_held_46 rfl (rfl : 46 + 1 = 47) ?_
        refine own_retI X0 hx hby hlk hrt d_held_47 (by decide) (by decide) ?_
        show Q_held Z a0 a1 k0 k1 m0 m1 m2 p0 p1 p2 p3 h0 n0 _ s₁.heap _
        exact ⟨(congrArg (fun z => some (Value.int z)) (by rw [F_held, if_pos c1, if_neg c2, if_pos c4] <;> rfl)), N0, e0⟩
      · refine g_ifT X0 hx hby d_held_34 ((if0 _ _).trans (flt c4).2.2.2) (by decide) (pc' := 40) (by decide) ?_
        refine g_iinc X0 hx hby #[.val (.ref a0), .val (.ref a1), .val (.int m0), .val (.ref a0), .val (.int (3 : Int32)), .val (.int ((2 : Int32) + (1 : Int32))), .val (.int m2)] d_held_40 rfl rfl (rfl : 40 + 3 = 43) ?_
        rw [(by decide : ((2 : Int32) + (1 : Int32)) = (3 : Int32))]
        refine g_goto X0 hx hby d_held_43 (by decide) (pc' := 13) (by decide) ?_
        refine g_iload X0 hx hby d_held_13 rfl (rfl : 13 + 2 = 15) ?_
        refine g_iload X0 hx hby d_held_15 rfl (rfl : 15 + 2 = 17) ?_
        refine g_icT X0 hx hby d_held_17 (flt (by decide : ¬ ((3 : Int32) < (3 : Int32)))).2.1 (by decide) (pc' := 46) (by decide) ?_
        refine g_iloadN X0 hx hby d_held_46 rfl (rfl : 46 + 1 = 47) ?_
        refine own_retI X0 hx hby hlk hrt d_held_47 (by decide) (by decide) ?_
        show Q_held Z a0 a1 k0 k1 m0 m1 m2 p0 p1 p2 p3 h0 n0 _ s₁.heap _
        exact ⟨(congrArg (fun z => some (Value.int z)) (by rw [F_held, if_pos c1, if_neg c2, if_neg c4] <;> rfl)), N0, e0⟩
  · refine g_ifT X0 hx hby d_held_34 ((if0 _ _).trans (flt c1).2.2.2) (by decide) (pc' := 40) (by decide) ?_
    refine g_iinc X0 hx hby #[.val (.ref a0), .val (.ref a1), .val (.int m0), .val (.ref a0), .val (.int (3 : Int32)), .val (.int ((0 : Int32) + (1 : Int32))), .val (.int m0)] d_held_40 rfl rfl (rfl : 40 + 3 = 43) ?_
    rw [(by decide : ((0 : Int32) + (1 : Int32)) = (1 : Int32))]
    refine g_goto X0 hx hby d_held_43 (by decide) (pc' := 13) (by decide) ?_
    refine g_iload X0 hx hby d_held_13 rfl (rfl : 13 + 2 = 15) ?_
    refine g_iload X0 hx hby d_held_15 rfl (rfl : 15 + 2 = 17) ?_
    refine g_icF X0 hx hby d_held_17 (tlt (by decide : (1 : Int32) < (3 : Int32))).2.1 (rfl : 17 + 3 = 20) ?_
    refine g_aloadN X0 hx hby d_held_20 rfl rfl (rfl : 20 + 1 = 21) ?_
    refine g_iload X0 hx hby d_held_21 rfl (rfl : 21 + 2 = 23) ?_
    refine g_iaload X0 hx hby hZ e0 (v := (.int m1)) hp0 ⟨by decide, by decide⟩ rfl d_held_23 (rfl : 23 + 1 = 24) ?_
    refine g_istore X0 hx hby #[.val (.ref a0), .val (.ref a1), .val (.int m0), .val (.ref a0), .val (.int (3 : Int32)), .val (.int (1 : Int32)), .val (.int m1)] d_held_24 rfl (rfl : 24 + 2 = 26) ?_
    refine g_aloadN X0 hx hby d_held_26 rfl rfl (rfl : 26 + 1 = 27) ?_
    refine g_iload X0 hx hby d_held_27 rfl (rfl : 27 + 2 = 29) ?_
    refine g_daload X0 hx hby hZ e0 (v := (.double (own_pick p0 p1 p2 p3 m1))) hp1 ⟨lom1, him1⟩ (own_pick_at lom1 him1) d_held_29 (rfl : 29 + 1 = 30) ?_
    refine g_aloadN X0 hx hby d_held_30 rfl rfl (rfl : 30 + 1 = 31) ?_
    refine g_iloadN X0 hx hby d_held_31 rfl (rfl : 31 + 1 = 32) ?_
    refine g_daload X0 hx hby hZ e0 (v := (.double (own_pick p0 p1 p2 p3 m0))) hp1 ⟨lom0, him0⟩ (own_pick_at lom0 him0) d_held_32 (rfl : 32 + 1 = 33) ?_
    refine g_dcmp X0 hx hby d_held_33 (rfl : 33 + 1 = 34) ?_
    by_cases c5 : (0 : Int32) < (cmpValue (FP.dcmp (own_pick p0 p1 p2 p3 m1) (own_pick p0 p1 p2 p3 m0)) .l)
    · refine g_ifF X0 hx hby d_held_34 ((if0 _ _).trans (tlt c5).2.2.2) (rfl : 34 + 3 = 37) ?_
      refine g_iload X0 hx hby d_held_37 rfl (rfl : 37 + 2 = 39) ?_
      refine g_istoreN X0 hx hby #[.val (.ref a0), .val (.ref a1), .val (.int m1), .val (.ref a0), .val (.int (3 : Int32)), .val (.int (1 : Int32)), .val (.int m1)] d_held_39 rfl (rfl : 39 + 1 = 40) ?_
      refine g_iinc X0 hx hby #[.val (.ref a0), .val (.ref a1), .val (.int m1), .val (.ref a0), .val (.int (3 : Int32)), .val (.int ((1 : Int32) + (1 : Int32))), .val (.int m1)] d_held_40 rfl rfl (rfl : 40 + 3 = 43) ?_
      rw [(by decide : ((1 : Int32) + (1 : Int32)) = (2 : Int32))]
      refine g_goto X0 hx hby d_held_43 (by decide) (pc' := 13) (by decide) ?_
      refine g_iload X0 hx hby d_held_13 rfl (rfl : 13 + 2 = 15) ?_
      refine g_iload X0 hx hby d_held_15 rfl (rfl : 15 + 2 = 17) ?_
      refine g_icF X0 hx hby d_held_17 (tlt (by decide : (2 : Int32) < (3 : Int32))).2.1 (rfl : 17 + 3 = 20) ?_
      refine g_aloadN X0 hx hby d_held_20 rfl rfl (rfl : 20 + 1 = 21) ?_
      refine g_iload X0 hx hby d_held_21 rfl (rfl : 21 + 2 = 23) ?_
      refine g_iaload X0 hx hby hZ e0 (v := (.int m2)) hp0 ⟨by decide, by decide⟩ rfl d_held_23 (rfl : 23 + 1 = 24) ?_
      refine g_istore X0 hx hby #[.val (.ref a0), .val (.ref a1), .val (.int m1), .val (.ref a0), .val (.int (3 : Int32)), .val (.int (2 : Int32)), .val (.int m2)] d_held_24 rfl (rfl : 24 + 2 = 26) ?_
      refine g_aloadN X0 hx hby d_held_26 rfl rfl (rfl : 26 + 1 = 27) ?_
      refine g_iload X0 hx hby d_held_27 rfl (rfl : 27 + 2 = 29) ?_
      refine g_daload X0 hx hby hZ e0 (v := (.double (own_pick p0 p1 p2 p3 m2))) hp1 ⟨lom2, him2⟩ (own_pick_at lom2 him2) d_held_29 (rfl : 29 + 1 = 30) ?_
      refine g_aloadN X0 hx hby d_held_30 rfl rfl (rfl : 30 + 1 = 31) ?_
      refine g_iloadN X0 hx hby d_held_31 rfl (rfl : 31 + 1 = 32) ?_
      refine g_daload X0 hx hby hZ e0 (v := (.double (own_pick p0 p1 p2 p3 m1))) hp1 ⟨lom1, him1⟩ (own_pick_at lom1 him1) d_held_32 (rfl : 32 + 1 = 33) ?_
      refine g_dcmp X0 hx hby d_held_33 (rfl : 33 + 1 = 34) ?_
      by_cases c6 : (0 : Int32) < (cmpValue (FP.dcmp (own_pick p0 p1 p2 p3 m2) (own_pick p0 p1 p2 p3 m1)) .l)
      · refine g_ifF X0 hx hby d_held_34 ((if0 _ _).trans (tlt c6).2.2.2) (rfl : 34 + 3 = 37) ?_
        refine g_iload X0 hx hby d_held_37 rfl (rfl : 37 + 2 = 39) ?_
        refine g_istoreN X0 hx hby #[.val (.ref a0), .val (.ref a1), .val (.int m2), .val (.ref a0), .val (.int (3 : Int32)), .val (.int (2 : Int32)), .val (.int m2)] d_held_39 rfl (rfl : 39 + 1 = 40) ?_
        refine g_iinc X0 hx hby #[.val (.ref a0), .val (.ref a1), .val (.int m2), .val (.ref a0), .val (.int (3 : Int32)), .val (.int ((2 : Int32) + (1 : Int32))), .val (.int m2)] d_held_40 rfl rfl (rfl : 40 + 3 = 43) ?_
        rw [(by decide : ((2 : Int32) + (1 : Int32)) = (3 : Int32))]
        refine g_goto X0 hx hby d_held_43 (by decide) (pc' := 13) (by decide) ?_
        refine g_iload X0 hx hby d_held_13 rfl (rfl : 13 + 2 = 15) ?_
        refine g_iload X0 hx hby d_held_15 rfl (rfl : 15 + 2 = 17) ?_
        refine g_icT X0 hx hby d_held_17 (flt (by decide : ¬ ((3 : Int32) < (3 : Int32)))).2.1 (by decide) (pc' := 46) (by decide) ?_
        refine g_iloadN X0 hx hby d_held_46 rfl (rfl : 46 + 1 = 47) ?_
        refine own_retI X0 hx hby hlk hrt d_held_47 (by decide) (by decide) ?_
        show Q_held Z a0 a1 k0 k1 m0 m1 m2 p0 p1 p2 p3 h0 n0 _ s₁.heap _
        exact ⟨(congrArg (fun z => some (Value.int z)) (by rw [F_held, if_neg c1, if_pos c5, if_pos c6] <;> rfl)), N0, e0⟩
      · refine g_ifT X0 hx hby d_held_34 ((if0 _ _).trans (flt c6).2.2.2) (by decide) (pc' := 40) (by decide) ?_
        refine g_iinc X0 hx hby #[.val (.ref a0), .val (.ref a1), .val (.int m1), .val (.ref a0), .val (.int (3 : Int32)), .val (.int ((2 : Int32) + (1 : Int32))), .val (.int m2)] d_held_40 rfl rfl (rfl : 40 + 3 = 43) ?_
        rw [(by decide : ((2 : Int32) + (1 : Int32)) = (3 : Int32))]
        refine g_goto X0 hx hby d_held_43 (by decide) (pc' := 13) (by decide) ?_
        refine g_iload X0 hx hby d_held_13 rfl (rfl : 13 + 2 = 15) ?_
        refine g_iload X0 hx hby d_held_15 rfl (rfl : 15 + 2 = 17) ?_
        refine g_icT X0 hx hby d_held_17 (flt (by decide : ¬ ((3 : Int32) < (3 : Int32)))).2.1 (by decide) (pc' := 46) (by decide) ?_
        refine g_iloadN X0 hx hby d_held_46 rfl (rfl : 46 + 1 = 47) ?_
        refine own_retI X0 hx hby hlk hrt d_held_47 (by decide) (by decide) ?_
        show Q_held Z a0 a1 k0 k1 m0 m1 m2 p0 p1 p2 p3 h0 n0 _ s₁.heap _
        exact ⟨(congrArg (fun z => some (Value.int z)) (by rw [F_held, if_neg c1, if_pos c5, if_neg c6] <;> rfl)), N0, e0⟩
    · refine g_ifT X0 hx hby d_held_34 ((if0 _ _).trans (flt c5).2.2.2) (by decide) (pc' := 40) (by decide) ?_
      refine g_iinc X0 hx hby #[.val (.ref a0), .val (.ref a1), .val (.int m0), .val (.ref a0), .val (.int (3 : Int32)), .val (.int ((1 : Int32) + (1 : Int32))), .val (.int m1)] d_held_40 rfl rfl (rfl : 40 + 3 = 43) ?_
      rw [(by decide : ((1 : Int32) + (1 : Int32)) = (2 : Int32))]
      refine g_goto X0 hx hby d_held_43 (by decide) (pc' := 13) (by decide) ?_
      refine g_iload X0 hx hby d_held_13 rfl (rfl : 13 + 2 = 15) ?_
      refine g_iload X0 hx hby d_held_15 rfl (rfl : 15 + 2 = 17) ?_
      refine g_icF X0 hx hby d_held_17 (tlt (by decide : (2 : Int32) < (3 : Int32))).2.1 (rfl : 17 + 3 = 20) ?_
      refine g_aloadN X0 hx hby d_held_20 rfl rfl (rfl : 20 + 1 = 21) ?_
      refine g_iload X0 hx hby d_held_21 rfl (rfl : 21 + 2 = 23) ?_
      refine g_iaload X0 hx hby hZ e0 (v := (.int m2)) hp0 ⟨by decide, by decide⟩ rfl d_held_23 (rfl : 23 + 1 = 24) ?_
      refine g_istore X0 hx hby #[.val (.ref a0), .val (.ref a1), .val (.int m0), .val (.ref a0), .val (.int (3 : Int32)), .val (.int (2 : Int32)), .val (.int m2)] d_held_24 rfl (rfl : 24 + 2 = 26) ?_
      refine g_aloadN X0 hx hby d_held_26 rfl rfl (rfl : 26 + 1 = 27) ?_
      refine g_iload X0 hx hby d_held_27 rfl (rfl : 27 + 2 = 29) ?_
      refine g_daload X0 hx hby hZ e0 (v := (.double (own_pick p0 p1 p2 p3 m2))) hp1 ⟨lom2, him2⟩ (own_pick_at lom2 him2) d_held_29 (rfl : 29 + 1 = 30) ?_
      refine g_aloadN X0 hx hby d_held_30 rfl rfl (rfl : 30 + 1 = 31) ?_
      refine g_iloadN X0 hx hby d_held_31 rfl (rfl : 31 + 1 = 32) ?_
      refine g_daload X0 hx hby hZ e0 (v := (.double (own_pick p0 p1 p2 p3 m0))) hp1 ⟨lom0, him0⟩ (own_pick_at lom0 him0) d_held_32 (rfl : 32 + 1 = 33) ?_
      refine g_dcmp X0 hx hby d_held_33 (rfl : 33 + 1 = 34) ?_
      by_cases c7 : (0 : Int32) < (cmpValue (FP.dcmp (own_pick p0 p1 p2 p3 m2) (own_pick p0 p1 p2 p3 m0)) .l)
      · refine g_ifF X0 hx hby d_held_34 ((if0 _ _).trans (tlt c7).2.2.2) (rfl : 34 + 3 = 37) ?_
        refine g_iload X0 hx hby d_held_37 rfl (rfl : 37 + 2 = 39) ?_
        refine g_istoreN X0 hx hby #[.val (.ref a0), .val (.ref a1), .val (.int m2), .val (.ref a0), .val (.int (3 : Int32)), .val (.int (2 : Int32)), .val (.int m2)] d_held_39 rfl (rfl : 39 + 1 = 40) ?_
        refine g_iinc X0 hx hby #[.val (.ref a0), .val (.ref a1), .val (.int m2), .val (.ref a0), .val (.int (3 : Int32)), .val (.int ((2 : Int32) + (1 : Int32))), .val (.int m2)] d_held_40 rfl rfl (rfl : 40 + 3 = 43) ?_
        rw [(by decide : ((2 : Int32) + (1 : Int32)) = (3 : Int32))]
        refine g_goto X0 hx hby d_held_43 (by decide) (pc' := 13) (by decide) ?_
        refine g_iload X0 hx hby d_held_13 rfl (rfl : 13 + 2 = 15) ?_
        refine g_iload X0 hx hby d_held_15 rfl (rfl : 15 + 2 = 17) ?_
        refine g_icT X0 hx hby d_held_17 (flt (by decide : ¬ ((3 : Int32) < (3 : Int32)))).2.1 (by decide) (pc' := 46) (by decide) ?_
        refine g_iloadN X0 hx hby d_held_46 rfl (rfl : 46 + 1 = 47) ?_
        refine own_retI X0 hx hby hlk hrt d_held_47 (by decide) (by decide) ?_
        show Q_held Z a0 a1 k0 k1 m0 m1 m2 p0 p1 p2 p3 h0 n0 _ s₁.heap _
        exact ⟨(congrArg (fun z => some (Value.int z)) (by rw [F_held, if_neg c1, if_neg c5, if_pos c7] <;> rfl)), N0, e0⟩
      · refine g_ifT X0 hx hby d_held_34 ((if0 _ _).trans (flt c7).2.2.2) (by decide) (pc' := 40) (by decide) ?_
        refine g_iinc X0 hx hby #[.val (.ref a0), .val (.ref a1), .val (.int m0), .val (.ref a0), .val (.int (3 : Int32)), .val (.int ((2 : Int32) + (1 : Int32))), .val (.int m2)] d_held_40 rfl rfl (rfl : 40 + 3 = 43) ?_
        rw [(by decide : ((2 : Int32) + (1 : Int32)) = (3 : Int32))]
        refine g_goto X0 hx hby d_held_43 (by decide) (pc' := 13) (by decide) ?_
        refine g_iload X0 hx hby d_held_13 rfl (rfl : 13 + 2 = 15) ?_
        refine g_iload X0 hx hby d_held_15 rfl (rfl : 15 + 2 = 17) ?_
        refine g_icT X0 hx hby d_held_17 (flt (by decide : ¬ ((3 : Int32) < (3 : Int32)))).2.1 (by decide) (pc' := 46) (by decide) ?_
        refine g_iloadN X0 hx hby d_held_46 rfl (rfl : 46 + 1 = 47) ?_
        refine own_retI X0 hx hby hlk hrt d_held_47 (by decide) (by decide) ?_
        show Q_held Z a0 a1 k0 k1 m0 m1 m2 p0 p1 p2 p3 h0 n0 _ s₁.heap _
        exact ⟨(congrArg (fun z => some (Value.int z)) (by rw [F_held, if_neg c1, if_neg c5, if_neg c7] <;> rfl)), N0, e0⟩
theorem pn1 : plainName "com/example/markov_lumper/markovlumper/solver/ErrorBoundHeldMemberPinLaw" = true := by first | (simp [plainName, overriddenIn]; done) | decide +kernel
theorem pd0 : parseMethodDescriptor "([I[D)I" = some ⟨[(.array .int), (.array .double)], some .int⟩ := by decide +kernel
theorem ef_law (m : MethodId) (x0 : Int32) (x1 : Int32) : entryFrame m #[(.int x0), (.int x1)] maxLocals = mkF m 0 #[.val (.int x0), .val (.int x1), .unset, .unset, .unset, .unset, .unset, .unset, .unset, .unset, .unset, .unset] [] := by first | (simp [entryFrame, mkF, argsToLocals, Value.category, maxLocals]; done) | rfl
def F_law (x0 : Int32) (x1 : Int32) : Int32 := if (cmpValue (FP.dcmp (own_pick (FP.i2d ((x1 &&& (7 : Int32)) - (4 : Int32))) (FP.i2d ((((x1.toUInt32 >>> ((3 : Int32) &&& 31).toUInt32).toInt32) &&& (7 : Int32)) - (4 : Int32))) (FP.i2d ((((x1.toUInt32 >>> ((6 : Int32) &&& 31).toUInt32).toInt32) &&& (7 : Int32)) - (4 : Int32))) (FP.i2d ((((x1.toUInt32 >>> ((9 : Int32) &&& 31).toUInt32).toInt32) &&& (7 : Int32)) - (4 : Int32))) (x0 &&& (3 : Int32))) (own_pick (FP.i2d ((x1 &&& (7 : Int32)) - (4 : Int32))) (FP.i2d ((((x1.toUInt32 >>> ((3 : Int32) &&& 31).toUInt32).toInt32) &&& (7 : Int32)) - (4 : Int32))) (FP.i2d ((((x1.toUInt32 >>> ((6 : Int32) &&& 31).toUInt32).toInt32) &&& (7 : Int32)) - (4 : Int32))) (FP.i2d ((((x1.toUInt32 >>> ((9 : Int32) &&& 31).toUInt32).toInt32) &&& (7 : Int32)) - (4 : Int32))) (((x0.toUInt32 >>> ((2 : Int32) &&& 31).toUInt32).toInt32) &&& (3 : Int32)))) .l) < (0 : Int32) then (if (cmpValue (FP.dcmp (own_pick (FP.i2d ((x1 &&& (7 : Int32)) - (4 : Int32))) (FP.i2d ((((x1.toUInt32 >>> ((3 : Int32) &&& 31).toUInt32).toInt32) &&& (7 : Int32)) - (4 : Int32))) (FP.i2d ((((x1.toUInt32 >>> ((6 : Int32) &&& 31).toUInt32).toInt32) &&& (7 : Int32)) - (4 : Int32))) (FP.i2d ((((x1.toUInt32 >>> ((9 : Int32) &&& 31).toUInt32).toInt32) &&& (7 : Int32)) - (4 : Int32))) (((x0.toUInt32 >>> ((2 : Int32) &&& 31).toUInt32).toInt32) &&& (3 : Int32))) (own_pick (FP.i2d ((x1 &&& (7 : Int32)) - (4 : Int32))) (FP.i2d ((((x1.toUInt32 >>> ((3 : Int32) &&& 31).toUInt32).toInt32) &&& (7 : Int32)) - (4 : Int32))) (FP.i2d ((((x1.toUInt32 >>> ((6 : Int32) &&& 31).toUInt32).toInt32) &&& (7 : Int32)) - (4 : Int32))) (FP.i2d ((((x1.toUInt32 >>> ((9 : Int32) &&& 31).toUInt32).toInt32) &&& (7 : Int32)) - (4 : Int32))) (((x0.toUInt32 >>> ((4 : Int32) &&& 31).toUInt32).toInt32) &&& (3 : Int32)))) .l) < (0 : Int32) then (if (F_held (x0 &&& (3 : Int32)) (((x0.toUInt32 >>> ((2 : Int32) &&& 31).toUInt32).toInt32) &&& (3 : Int32)) (((x0.toUInt32 >>> ((4 : Int32) &&& 31).toUInt32).toInt32) &&& (3 : Int32)) (FP.i2d ((x1 &&& (7 : Int32)) - (4 : Int32))) (FP.i2d ((((x1.toUInt32 >>> ((3 : Int32) &&& 31).toUInt32).toInt32) &&& (7 : Int32)) - (4 : Int32))) (FP.i2d ((((x1.toUInt32 >>> ((6 : Int32) &&& 31).toUInt32).toInt32) &&& (7 : Int32)) - (4 : Int32))) (FP.i2d ((((x1.toUInt32 >>> ((9 : Int32) &&& 31).toUInt32).toInt32) &&& (7 : Int32)) - (4 : Int32)))) = (((x0.toUInt32 >>> ((4 : Int32) &&& 31).toUInt32).toInt32) &&& (3 : Int32)) then ((1 : Int32)) else ((0 : Int32))) else (if (F_held (x0 &&& (3 : Int32)) (((x0.toUInt32 >>> ((2 : Int32) &&& 31).toUInt32).toInt32) &&& (3 : Int32)) (((x0.toUInt32 >>> ((4 : Int32) &&& 31).toUInt32).toInt32) &&& (3 : Int32)) (FP.i2d ((x1 &&& (7 : Int32)) - (4 : Int32))) (FP.i2d ((((x1.toUInt32 >>> ((3 : Int32) &&& 31).toUInt32).toInt32) &&& (7 : Int32)) - (4 : Int32))) (FP.i2d ((((x1.toUInt32 >>> ((6 : Int32) &&& 31).toUInt32).toInt32) &&& (7 : Int32)) - (4 : Int32))) (FP.i2d ((((x1.toUInt32 >>> ((9 : Int32) &&& 31).toUInt32).toInt32) &&& (7 : Int32)) - (4 : Int32)))) = (((x0.toUInt32 >>> ((2 : Int32) &&& 31).toUInt32).toInt32) &&& (3 : Int32)) then ((1 : Int32)) else ((0 : Int32)))) else (if (cmpValue (FP.dcmp (own_pick (FP.i2d ((x1 &&& (7 : Int32)) - (4 : Int32))) (FP.i2d ((((x1.toUInt32 >>> ((3 : Int32) &&& 31).toUInt32).toInt32) &&& (7 : Int32)) - (4 : Int32))) (FP.i2d ((((x1.toUInt32 >>> ((6 : Int32) &&& 31).toUInt32).toInt32) &&& (7 : Int32)) - (4 : Int32))) (FP.i2d ((((x1.toUInt32 >>> ((9 : Int32) &&& 31).toUInt32).toInt32) &&& (7 : Int32)) - (4 : Int32))) (x0 &&& (3 : Int32))) (own_pick (FP.i2d ((x1 &&& (7 : Int32)) - (4 : Int32))) (FP.i2d ((((x1.toUInt32 >>> ((3 : Int32) &&& 31).toUInt32).toInt32) &&& (7 : Int32)) - (4 : Int32))) (FP.i2d ((((x1.toUInt32 >>> ((6 : Int32) &&& 31).toUInt32).toInt32) &&& (7 : Int32)) - (4 : Int32))) (FP.i2d ((((x1.toUInt32 >>> ((9 : Int32) &&& 31).toUInt32).toInt32) &&& (7 : Int32)) - (4 : Int32))) (((x0.toUInt32 >>> ((4 : Int32) &&& 31).toUInt32).toInt32) &&& (3 : Int32)))) .l) < (0 : Int32) then (if (cmpValue (FP.dcmp (own_pick (FP.i2d ((x1 &&& (7 : Int32)) - (4 : Int32))) (FP.i2d ((((x1.toUInt32 >>> ((3 : Int32) &&& 31).toUInt32).toInt32) &&& (7 : Int32)) - (4 : Int32))) (FP.i2d ((((x1.toUInt32 >>> ((6 : Int32) &&& 31).toUInt32).toInt32) &&& (7 : Int32)) - (4 : Int32))) (FP.i2d ((((x1.toUInt32 >>> ((9 : Int32) &&& 31).toUInt32).toInt32) &&& (7 : Int32)) - (4 : Int32))) (((x0.toUInt32 >>> ((2 : Int32) &&& 31).toUInt32).toInt32) &&& (3 : Int32))) (own_pick (FP.i2d ((x1 &&& (7 : Int32)) - (4 : Int32))) (FP.i2d ((((x1.toUInt32 >>> ((3 : Int32) &&& 31).toUInt32).toInt32) &&& (7 : Int32)) - (4 : Int32))) (FP.i2d ((((x1.toUInt32 >>> ((6 : Int32) &&& 31).toUInt32).toInt32) &&& (7 : Int32)) - (4 : Int32))) (FP.i2d ((((x1.toUInt32 >>> ((9 : Int32) &&& 31).toUInt32).toInt32) &&& (7 : Int32)) - (4 : Int32))) (((x0.toUInt32 >>> ((4 : Int32) &&& 31).toUInt32).toInt32) &&& (3 : Int32)))) .l) < (0 : Int32) then (if (F_held (x0 &&& (3 : Int32)) (((x0.toUInt32 >>> ((2 : Int32) &&& 31).toUInt32).toInt32) &&& (3 : Int32)) (((x0.toUInt32 >>> ((4 : Int32) &&& 31).toUInt32).toInt32) &&& (3 : Int32)) (FP.i2d ((x1 &&& (7 : Int32)) - (4 : Int32))) (FP.i2d ((((x1.toUInt32 >>> ((3 : Int32) &&& 31).toUInt32).toInt32) &&& (7 : Int32)) - (4 : Int32))) (FP.i2d ((((x1.toUInt32 >>> ((6 : Int32) &&& 31).toUInt32).toInt32) &&& (7 : Int32)) - (4 : Int32))) (FP.i2d ((((x1.toUInt32 >>> ((9 : Int32) &&& 31).toUInt32).toInt32) &&& (7 : Int32)) - (4 : Int32)))) = (((x0.toUInt32 >>> ((4 : Int32) &&& 31).toUInt32).toInt32) &&& (3 : Int32)) then ((1 : Int32)) else ((0 : Int32))) else (if (F_held (x0 &&& (3 : Int32)) (((x0.toUInt32 >>> ((2 : Int32) &&& 31).toUInt32).toInt32) &&& (3 : Int32)) (((x0.toUInt32 >>> ((4 : Int32) &&& 31).toUInt32).toInt32) &&& (3 : Int32)) (FP.i2d ((x1 &&& (7 : Int32)) - (4 : Int32))) (FP.i2d ((((x1.toUInt32 >>> ((3 : Int32) &&& 31).toUInt32).toInt32) &&& (7 : Int32)) - (4 : Int32))) (FP.i2d ((((x1.toUInt32 >>> ((6 : Int32) &&& 31).toUInt32).toInt32) &&& (7 : Int32)) - (4 : Int32))) (FP.i2d ((((x1.toUInt32 >>> ((9 : Int32) &&& 31).toUInt32).toInt32) &&& (7 : Int32)) - (4 : Int32)))) = (((x0.toUInt32 >>> ((2 : Int32) &&& 31).toUInt32).toInt32) &&& (3 : Int32)) then ((1 : Int32)) else ((0 : Int32)))) else (if (F_held (x0 &&& (3 : Int32)) (((x0.toUInt32 >>> ((2 : Int32) &&& 31).toUInt32).toInt32) &&& (3 : Int32)) (((x0.toUInt32 >>> ((4 : Int32) &&& 31).toUInt32).toInt32) &&& (3 : Int32)) (FP.i2d ((x1 &&& (7 : Int32)) - (4 : Int32))) (FP.i2d ((((x1.toUInt32 >>> ((3 : Int32) &&& 31).toUInt32).toInt32) &&& (7 : Int32)) - (4 : Int32))) (FP.i2d ((((x1.toUInt32 >>> ((6 : Int32) &&& 31).toUInt32).toInt32) &&& (7 : Int32)) - (4 : Int32))) (FP.i2d ((((x1.toUInt32 >>> ((9 : Int32) &&& 31).toUInt32).toInt32) &&& (7 : Int32)) - (4 : Int32)))) = (x0 &&& (3 : Int32)) then ((1 : Int32)) else ((0 : Int32))))
def Q_law (Z : State) (x0 : Int32) (x1 : Int32) (h0 : Heap) (n0 : Nat) (v : Option Value) (h : Heap) (L : List Loc) : Prop := v = some (.int (F_law x0 x1)) ∧ Fr n0 L
set_option maxRecDepth 65536 in
set_option maxHeartbeats 40000000 in
theorem rm_law (l : Launch) (Z : State) (aT : Array Value) (hw : ∀ d ∈ tables_1, d.before aT Z = true) (ws : List Jvm.Cond) (x0 : Int32) (x1 : Int32) (h0 : Heap) (n0 : Nat) (Z0 : n0 ≤ h0.size) :
    MetFree l x (head1 (Jvm.Cond.code x code maxLocals ret :: ws) room_1) (fun a U => a = #[(.int x0), (.int x1)] ∧ Z.Warmed39 U.vm ∧ U.heap = h0) (fun _ _ _ _ _ => True) (fun _ U o U' => ∃ v L, o = .returned v ∧ Q_law Z x0 x1 h0 n0 v U'.heap L ∧ FrameEnd U o U' L 16 128) := by
  refine MetFree.of_bodySF (plainFor_of_name pn1) hisR ?_
  intro p e s m args below meth c s₁ Bd hml0 hP hK
  obtain ⟨rfl, hZ, hh⟩ := hP
  have hx := Bd.exec
  have hby := Bd.bytes
  have hml : c.maxLocals = 12 := hml0
  have hown : s.vm.findClass "com/example/markov_lumper/markovlumper/solver/ErrorBoundHeldMemberPinLaw" = some m.cls := findClass_of_methodNamed Bd.named
  have hnm := (name_of_methodNamed Bd.named Bd.method).1
  have hlk := Bd.notSynchronized
  have hrt := Bd.returns
  have X0 : Stand p l e room_1 s m #[(.int x0), (.int x1)] below meth c s₁ [] 0 0 := Stand.of_body Bd
  have e0 : s₁.heap = h0 := by rw [← hh, Bd.state]; rfl
  have N0 := Fr.nil n0
  refine own_cast (P := own_End s (Q_law Z x0 x1 h0 n0) 16 128) (ef_law m x0 x1) ?_
  refine g_iconst X0 hx hby (3 : Int32) at_0 (by decide) (rfl : 0 + 1 = 1) ?_
  obtain ⟨T8, h8, k8, X8, e8, E8, A8, B8, st8⟩ := newPE X0 hx hZ (hw _ (List.mem_of_getElem? (i := 0) rfl)) e0 (g := (mkF m 1 #[.val (.int x0), .val (.int x1), .unset, .unset, .unset, .unset, .unset, .unset, .unset, .unset, .unset, .unset] [(.int (3 : Int32))])) rfl (hb hby at_1) rfl (by decide) (cap := 3) (by decide) (by decide) (by decide) (by decide) (ad := "[I") (by decide +kernel)
  obtain ⟨b8, g8⟩ : ∃ z, z = h0.size := ⟨_, rfl⟩
  rw [← g8] at A8 B8 st8
  have Z8 : n0 ≤ h8.size := Nat.le_trans Z0 E8.1
  have ge8 : n0 ≤ b8 := Nat.le_trans Z0 (Nat.le_of_eq g8.symm)
  have V8 : Arv Z h8 b8 k8 .int (3 : Int32) [(.int (0 : Int32)), (.int (0 : Int32)), (.int (0 : Int32))] (.int (0 : Int32)) := (Arv.new A8 (by decide)).pad (pad_rep [] _ 3)
  refine own_go st8 ?_
  show own_Got p e below _ T8 (mkF m 3 #[.val (.int x0), .val (.int x1), .unset, .unset, .unset, .unset, .unset, .unset, .unset, .unset, .unset, .unset] [(.ref b8)])
  refine g_astoreN X8 hx hby #[.val (.int x0), .val (.int x1), .val (.ref b8), .unset, .unset, .unset, .unset, .unset, .unset, .unset, .unset, .unset] at_3 rfl rfl (rfl : 3 + 1 = 4) ?_
  refine g_aloadN X8 hx hby at_4 rfl rfl (rfl : 4 + 1 = 5) ?_
  refine g_iconst X8 hx hby (0 : Int32) at_5 (by decide) (rfl : 5 + 1 = 6) ?_
  refine g_iloadN X8 hx hby at_6 rfl (rfl : 6 + 1 = 7) ?_
  refine g_iconst X8 hx hby (3 : Int32) at_7 (by decide) (rfl : 7 + 1 = 8) ?_
  refine g_iand X8 hx hby at_8 (rfl : 8 + 1 = 9) ?_
  obtain ⟨T9, h9, X9, e9, W9, V9, st9⟩ := a_iastore X8 hx hby hZ e8 (ls := #[.val (.int x0), .val (.int x1), .val (.ref b8), .unset, .unset, .unset, .unset, .unset, .unset, .unset, .unset, .unset]) (st := []) (j := (0 : Int32)) (x0 &&& (3 : Int32)) 0 V8 ⟨by decide, by decide⟩ (by decide) (Nat.le_of_ble_eq_true rfl) at_9
  have Z9 : n0 ≤ h9.size := Nat.le_trans Z8 (Keep.of_wr W9).1
  have N9 := Fr.snoc X9 N0 ge8
  have V9' : Arv Z h9 b8 k8 .int (3 : Int32) [(.int (x0 &&& (3 : Int32))), (.int (0 : Int32)), (.int (0 : Int32))] (.int (0 : Int32)) := V9
  refine own_go st9 ?_
  show own_Got p e below _ T9 (mkF m 10 #[.val (.int x0), .val (.int x1), .val (.ref b8), .unset, .unset, .unset, .unset, .unset, .unset, .unset, .unset, .unset] [])
  refine g_aloadN X9 hx hby at_10 rfl rfl (rfl : 10 + 1 = 11) ?_
  refine g_iconst X9 hx hby (1 : Int32) at_11 (by decide) (rfl : 11 + 1 = 12) ?_
  refine g_iloadN X9 hx hby at_12 rfl (rfl : 12 + 1 = 13) ?_
  refine g_iconst X9 hx hby (2 : Int32) at_13 (by decide) (rfl : 13 + 1 = 14) ?_
  refine g_iushr X9 hx hby at_14 (rfl : 14 + 1 = 15) ?_
  refine g_iconst X9 hx hby (3 : Int32) at_15 (by decide) (rfl : 15 + 1 = 16) ?_
  refine g_iand X9 hx hby at_16 (rfl : 16 + 1 = 17) ?_
  obtain ⟨T10, h10, X10, e10, W10, V10, st10⟩ := a_iastore X9 hx hby hZ e9 (ls := #[.val (.int x0), .val (.int x1), .val (.ref b8), .unset, .unset, .unset, .unset, .unset, .unset, .unset, .unset, .unset]) (st := []) (j := (1 : Int32)) (((x0.toUInt32 >>> ((2 : Int32) &&& 31).toUInt32).toInt32) &&& (3 : Int32)) 1 V9' ⟨by decide, by decide⟩ (by decide) (Nat.le_of_ble_eq_true rfl) at_17
  have Z10 : n0 ≤ h10.size := Nat.le_trans Z9 (Keep.of_wr W10).1
  have N10 := Fr.snoc X10 N9 ge8
  have V10' : Arv Z h10 b8 k8 .int (3 : Int32) [(.int (x0 &&& (3 : Int32))), (.int (((x0.toUInt32 >>> ((2 : Int32) &&& 31).toUInt32).toInt32) &&& (3 : Int32))), (.int (0 : Int32))] (.int (0 : Int32)) := V10
  refine own_go st10 ?_
  show own_Got p e below _ T10 (mkF m 18 #[.val (.int x0), .val (.int x1), .val (.ref b8), .unset, .unset, .unset, .unset, .unset, .unset, .unset, .unset, .unset] [])
  refine g_aloadN X10 hx hby at_18 rfl rfl (rfl : 18 + 1 = 19) ?_
  refine g_iconst X10 hx hby (2 : Int32) at_19 (by decide) (rfl : 19 + 1 = 20) ?_
  refine g_iloadN X10 hx hby at_20 rfl (rfl : 20 + 1 = 21) ?_
  refine g_iconst X10 hx hby (4 : Int32) at_21 (by decide) (rfl : 21 + 1 = 22) ?_
  refine g_iushr X10 hx hby at_22 (rfl : 22 + 1 = 23) ?_
  refine g_iconst X10 hx hby (3 : Int32) at_23 (by decide) (rfl : 23 + 1 = 24) ?_
  refine g_iand X10 hx hby at_24 (rfl : 24 + 1 = 25) ?_
  obtain ⟨T11, h11, X11, e11, W11, V11, st11⟩ := a_iastore X10 hx hby hZ e10 (ls := #[.val (.int x0), .val (.int x1), .val (.ref b8), .unset, .unset, .unset, .unset, .unset, .unset, .unset, .unset, .unset]) (st := []) (j := (2 : Int32)) (((x0.toUInt32 >>> ((4 : Int32) &&& 31).toUInt32).toInt32) &&& (3 : Int32)) 2 V10' ⟨by decide, by decide⟩ (by decide) (Nat.le_of_ble_eq_true rfl) at_25
  have Z11 : n0 ≤ h11.size := Nat.le_trans Z10 (Keep.of_wr W11).1
  have N11 := Fr.snoc X11 N10 ge8
  have V11' : Arv Z h11 b8 k8 .int (3 : Int32) [(.int (x0 &&& (3 : Int32))), (.int (((x0.toUInt32 >>> ((2 : Int32) &&& 31).toUInt32).toInt32) &&& (3 : Int32))), (.int (((x0.toUInt32 >>> ((4 : Int32) &&& 31).toUInt32).toInt32) &&& (3 : Int32)))] (.int (0 : Int32)) := V11
  refine own_go st11 ?_
  show own_Got p e below _ T11 (mkF m 26 #[.val (.int x0), .val (.int x1), .val (.ref b8), .unset, .unset, .unset, .unset, .unset, .unset, .unset, .unset, .unset] [])
  refine g_iconst X11 hx hby (4 : Int32) at_26 (by decide) (rfl : 26 + 1 = 27) ?_
  have f13 : Exa Z h11 b8 "[I" := (Exa.wr W11 (Exa.wr W10 (Exa.wr W9 B8)))
  obtain ⟨T12, h12, k12, X12, e12, E12, A12, B12, st12⟩ := newPE X11 hx hZ (hw _ (List.mem_of_getElem? (i := 1) rfl)) e11 (g := (mkF m 27 #[.val (.int x0), .val (.int x1), .val (.ref b8), .unset, .unset, .unset, .unset, .unset, .unset, .unset, .unset, .unset] [(.int (4 : Int32))])) rfl (hb hby at_27) rfl (by decide) (cap := 4) (by decide) (by decide) (by decide) (by decide) (ad := "[D") (by decide +kernel)
  obtain ⟨b12, g12⟩ : ∃ z, z = h11.size := ⟨_, rfl⟩
  rw [← g12] at A12 B12 st12
  have ne14 : b8 ≠ b12 := Nat.ne_of_lt (Nat.lt_of_lt_of_le (f13).lt (Nat.le_of_eq g12.symm))
  have Z12 : n0 ≤ h12.size := Nat.le_trans Z11 E12.1
  have ge12 : n0 ≤ b12 := Nat.le_trans Z11 (Nat.le_of_eq g12.symm)
  have V12 : Arv Z h12 b12 k12 .double (4 : Int32) [(.double (0 : UInt64)), (.double (0 : UInt64)), (.double (0 : UInt64)), (.double (0 : UInt64))] (.double (0 : UInt64)) := (Arv.new A12 (by decide)).pad (pad_rep [] _ 4)
  refine own_go st12 ?_
  show own_Got p e below _ T12 (mkF m 29 #[.val (.int x0), .val (.int x1), .val (.ref b8), .unset, .unset, .unset, .unset, .unset, .unset, .unset, .unset, .unset] [(.ref b12)])
  refine g_astoreN X12 hx hby #[.val (.int x0), .val (.int x1), .val (.ref b8), .val (.ref b12), .unset, .unset, .unset, .unset, .unset, .unset, .unset, .unset] at_29 rfl rfl (rfl : 29 + 1 = 30) ?_
  refine g_aloadN X12 hx hby at_30 rfl rfl (rfl : 30 + 1 = 31) ?_
  refine g_iconst X12 hx hby (0 : Int32) at_31 (by decide) (rfl : 31 + 1 = 32) ?_
  refine g_iloadN X12 hx hby at_32 rfl (rfl : 32 + 1 = 33) ?_
  refine g_bipush X12 hx hby (7 : Int32) at_33 (by decide) (rfl : 33 + 2 = 35) ?_
  refine g_iand X12 hx hby at_35 (rfl : 35 + 1 = 36) ?_
  refine g_iconst X12 hx hby (4 : Int32) at_36 (by decide) (rfl : 36 + 1 = 37) ?_
  refine g_isub X12 hx hby at_37 (rfl : 37 + 1 = 38) ?_
  refine g_i2d X12 hx hby at_38 (rfl : 38 + 1 = 39) ?_
  obtain ⟨T15, h15, X15, e15, W15, V15, st15⟩ := a_dastore X12 hx hby hZ e12 (ls := #[.val (.int x0), .val (.int x1), .val (.ref b8), .val (.ref b12), .unset, .unset, .unset, .unset, .unset, .unset, .unset, .unset]) (st := []) (j := (0 : Int32)) (FP.i2d ((x1 &&& (7 : Int32)) - (4 : Int32))) 0 V12 ⟨by decide, by decide⟩ (by decide) (Nat.le_of_ble_eq_true rfl) at_39
  have Z15 : n0 ≤ h15.size := Nat.le_trans Z12 (Keep.of_wr W15).1
  have N15 := Fr.snoc X15 N11 ge12
  have V15' : Arv Z h15 b12 k12 .double (4 : Int32) [(.double (FP.i2d ((x1 &&& (7 : Int32)) - (4 : Int32)))), (.double (0 : UInt64)), (.double (0 : UInt64)), (.double (0 : UInt64))] (.double (0 : UInt64)) := V15
  refine own_go st15 ?_
  show own_Got p e below _ T15 (mkF m 40 #[.val (.int x0), .val (.int x1), .val (.ref b8), .val (.ref b12), .unset, .unset, .unset, .unset, .unset, .unset, .unset, .unset] [])
  refine g_aloadN X15 hx hby at_40 rfl rfl (rfl : 40 + 1 = 41) ?_
  refine g_iconst X15 hx hby (1 : Int32) at_41 (by decide) (rfl : 41 + 1 = 42) ?_
  refine g_iloadN X15 hx hby at_42 rfl (rfl : 42 + 1 = 43) ?_
  refine g_iconst X15 hx hby (3 : Int32) at_43 (by decide) (rfl : 43 + 1 = 44) ?_
  refine g_iushr X15 hx hby at_44 (rfl : 44 + 1 = 45) ?_
  refine g_bipush X15 hx hby (7 : Int32) at_45 (by decide) (rfl : 45 + 2 = 47) ?_
  refine g_iand X15 hx hby at_47 (rfl : 47 + 1 = 48) ?_
  refine g_iconst X15 hx hby (4 : Int32) at_48 (by decide) (rfl : 48 + 1 = 49) ?_
  refine g_isub X15 hx hby at_49 (rfl : 49 + 1 = 50) ?_
  refine g_i2d X15 hx hby at_50 (rfl : 50 + 1 = 51) ?_
  obtain ⟨T16, h16, X16, e16, W16, V16, st16⟩ := a_dastore X15 hx hby hZ e15 (ls := #[.val (.int x0), .val (.int x1), .val (.ref b8), .val (.ref b12), .unset, .unset, .unset, .unset, .unset, .unset, .unset, .unset]) (st := []) (j := (1 : Int32)) (FP.i2d ((((x1.toUInt32 >>> ((3 : Int32) &&& 31).toUInt32).toInt32) &&& (7 : Int32)) - (4 : Int32))) 1 V15' ⟨by decide, by decide⟩ (by decide) (Nat.le_of_ble_eq_true rfl) at_51
  have Z16 : n0 ≤ h16.size := Nat.le_trans Z15 (Keep.of_wr W16).1
  have N16 := Fr.snoc X16 N15 ge12
  have V16' : Arv Z h16 b12 k12 .double (4 : Int32) [(.double (FP.i2d ((x1 &&& (7 : Int32)) - (4 : Int32)))), (.double (FP.i2d ((((x1.toUInt32 >>> ((3 : Int32) &&& 31).toUInt32).toInt32) &&& (7 : Int32)) - (4 : Int32)))), (.double (0 : UInt64)), (.double (0 : UInt64))] (.double (0 : UInt64)) := V16
  refine own_go st16 ?_
  show own_Got p e below _ T16 (mkF m 52 #[.val (.int x0), .val (.int x1), .val (.ref b8), .val (.ref b12), .unset, .unset, .unset, .unset, .unset, .unset, .unset, .unset] [])
  refine g_aloadN X16 hx hby at_52 rfl rfl (rfl : 52 + 1 = 53) ?_
  refine g_iconst X16 hx hby (2 : Int32) at_53 (by decide) (rfl : 53 + 1 = 54) ?_
  refine g_iloadN X16 hx hby at_54 rfl (rfl : 54 + 1 = 55) ?_
  refine g_bipush X16 hx hby (6 : Int32) at_55 (by decide) (rfl : 55 + 2 = 57) ?_
  refine g_iushr X16 hx hby at_57 (rfl : 57 + 1 = 58) ?_
  refine g_bipush X16 hx hby (7 : Int32) at_58 (by decide) (rfl : 58 + 2 = 60) ?_
  refine g_iand X16 hx hby at_60 (rfl : 60 + 1 = 61) ?_
  refine g_iconst X16 hx hby (4 : Int32) at_61 (by decide) (rfl : 61 + 1 = 62) ?_
  refine g_isub X16 hx hby at_62 (rfl : 62 + 1 = 63) ?_
  refine g_i2d X16 hx hby at_63 (rfl : 63 + 1 = 64) ?_
  obtain ⟨T17, h17, X17, e17, W17, V17, st17⟩ := a_dastore X16 hx hby hZ e16 (ls := #[.val (.int x0), .val (.int x1), .val (.ref b8), .val (.ref b12), .unset, .unset, .unset, .unset, .unset, .unset, .unset, .unset]) (st := []) (j := (2 : Int32)) (FP.i2d ((((x1.toUInt32 >>> ((6 : Int32) &&& 31).toUInt32).toInt32) &&& (7 : Int32)) - (4 : Int32))) 2 V16' ⟨by decide, by decide⟩ (by decide) (Nat.le_of_ble_eq_true rfl) at_64
  have Z17 : n0 ≤ h17.size := Nat.le_trans Z16 (Keep.of_wr W17).1
  have N17 := Fr.snoc X17 N16 ge12
  have V17' : Arv Z h17 b12 k12 .double (4 : Int32) [(.double (FP.i2d ((x1 &&& (7 : Int32)) - (4 : Int32)))), (.double (FP.i2d ((((x1.toUInt32 >>> ((3 : Int32) &&& 31).toUInt32).toInt32) &&& (7 : Int32)) - (4 : Int32)))), (.double (FP.i2d ((((x1.toUInt32 >>> ((6 : Int32) &&& 31).toUInt32).toInt32) &&& (7 : Int32)) - (4 : Int32)))), (.double (0 : UInt64))] (.double (0 : UInt64)) := V17
  refine own_go st17 ?_
  show own_Got p e below _ T17 (mkF m 65 #[.val (.int x0), .val (.int x1), .val (.ref b8), .val (.ref b12), .unset, .unset, .unset, .unset, .unset, .unset, .unset, .unset] [])
  refine g_aloadN X17 hx hby at_65 rfl rfl (rfl : 65 + 1 = 66) ?_
  refine g_iconst X17 hx hby (3 : Int32) at_66 (by decide) (rfl : 66 + 1 = 67) ?_
  refine g_iloadN X17 hx hby at_67 rfl (rfl : 67 + 1 = 68) ?_
  refine g_bipush X17 hx hby (9 : Int32) at_68 (by decide) (rfl : 68 + 2 = 70) ?_
  refine g_iushr X17 hx hby at_70 (rfl : 70 + 1 = 71) ?_
  refine g_bipush X17 hx hby (7 : Int32) at_71 (by decide) (rfl : 71 + 2 = 73) ?_
  refine g_iand X17 hx hby at_73 (rfl : 73 + 1 = 74) ?_
  refine g_iconst X17 hx hby (4 : Int32) at_74 (by decide) (rfl : 74 + 1 = 75) ?_
  refine g_isub X17 hx hby at_75 (rfl : 75 + 1 = 76) ?_
  refine g_i2d X17 hx hby at_76 (rfl : 76 + 1 = 77) ?_
  obtain ⟨T18, h18, X18, e18, W18, V18, st18⟩ := a_dastore X17 hx hby hZ e17 (ls := #[.val (.int x0), .val (.int x1), .val (.ref b8), .val (.ref b12), .unset, .unset, .unset, .unset, .unset, .unset, .unset, .unset]) (st := []) (j := (3 : Int32)) (FP.i2d ((((x1.toUInt32 >>> ((9 : Int32) &&& 31).toUInt32).toInt32) &&& (7 : Int32)) - (4 : Int32))) 3 V17' ⟨by decide, by decide⟩ (by decide) (Nat.le_of_ble_eq_true rfl) at_77
  have Z18 : n0 ≤ h18.size := Nat.le_trans Z17 (Keep.of_wr W18).1
  have N18 := Fr.snoc X18 N17 ge12
  have V18' : Arv Z h18 b12 k12 .double (4 : Int32) [(.double (FP.i2d ((x1 &&& (7 : Int32)) - (4 : Int32)))), (.double (FP.i2d ((((x1.toUInt32 >>> ((3 : Int32) &&& 31).toUInt32).toInt32) &&& (7 : Int32)) - (4 : Int32)))), (.double (FP.i2d ((((x1.toUInt32 >>> ((6 : Int32) &&& 31).toUInt32).toInt32) &&& (7 : Int32)) - (4 : Int32)))), (.double (FP.i2d ((((x1.toUInt32 >>> ((9 : Int32) &&& 31).toUInt32).toInt32) &&& (7 : Int32)) - (4 : Int32))))] (.double (0 : UInt64)) := V18
  refine own_go st18 ?_
  show own_Got p e below _ T18 (mkF m 78 #[.val (.int x0), .val (.int x1), .val (.ref b8), .val (.ref b12), .unset, .unset, .unset, .unset, .unset, .unset, .unset, .unset] [])
  refine g_aloadN X18 hx hby at_78 rfl rfl (rfl : 78 + 1 = 79) ?_
  refine g_aloadN X18 hx hby at_79 rfl rfl (rfl : 79 + 1 = 80) ?_
  refine g_iconst X18 hx hby (0 : Int32) at_80 (by decide) (rfl : 80 + 1 = 81) ?_
  have f19 : Arv Z h18 b8 k8 .int (3 : Int32) [(.int (x0 &&& (3 : Int32))), (.int (((x0.toUInt32 >>> ((2 : Int32) &&& 31).toUInt32).toInt32) &&& (3 : Int32))), (.int (((x0.toUInt32 >>> ((4 : Int32) &&& 31).toUInt32).toInt32) &&& (3 : Int32)))] (.int (0 : Int32)) := (Arv.other (Arv.other (Arv.other (Arv.other (V11'.ext E12) W15 ne14) W16 ne14) W17 ne14) W18 ne14)
  refine g_iaload X18 hx hby hZ e18 (v := (.int (x0 &&& (3 : Int32)))) f19 ⟨by decide, by decide⟩ rfl at_81 (rfl : 81 + 1 = 82) ?_
  refine g_daload X18 hx hby hZ e18 (v := (.double (own_pick (FP.i2d ((x1 &&& (7 : Int32)) - (4 : Int32))) (FP.i2d ((((x1.toUInt32 >>> ((3 : Int32) &&& 31).toUInt32).toInt32) &&& (7 : Int32)) - (4 : Int32))) (FP.i2d ((((x1.toUInt32 >>> ((6 : Int32) &&& 31).toUInt32).toInt32) &&& (7 : Int32)) - (4 : Int32))) (FP.i2d ((((x1.toUInt32 >>> ((9 : Int32) &&& 31).toUInt32).toInt32) &&& (7 : Int32)) - (4 : Int32))) (x0 &&& (3 : Int32))))) V18' ⟨(own_and3 _).1, (own_and3 _).2⟩ (own_pick_at (own_and3 _).1 (own_and3 _).2) at_82 (rfl : 82 + 1 = 83) ?_
  refine g_dstore X18 hx hby #[.val (.int x0), .val (.int x1), .val (.ref b8), .val (.ref b12), .val (.double (own_pick (FP.i2d ((x1 &&& (7 : Int32)) - (4 : Int32))) (FP.i2d ((((x1.toUInt32 >>> ((3 : Int32) &&& 31).toUInt32).toInt32) &&& (7 : Int32)) - (4 : Int32))) (FP.i2d ((((x1.toUInt32 >>> ((6 : Int32) &&& 31).toUInt32).toInt32) &&& (7 : Int32)) - (4 : Int32))) (FP.i2d ((((x1.toUInt32 >>> ((9 : Int32) &&& 31).toUInt32).toInt32) &&& (7 : Int32)) - (4 : Int32))) (x0 &&& (3 : Int32)))), .second, .unset, .unset, .unset, .unset, .unset, .unset] at_83 rfl (rfl : 83 + 2 = 85) ?_
  refine g_aloadN X18 hx hby at_85 rfl rfl (rfl : 85 + 1 = 86) ?_
  refine g_aloadN X18 hx hby at_86 rfl rfl (rfl : 86 + 1 = 87) ?_
  refine g_iconst X18 hx hby (1 : Int32) at_87 (by decide) (rfl : 87 + 1 = 88) ?_
  refine g_iaload X18 hx hby hZ e18 (v := (.int (((x0.toUInt32 >>> ((2 : Int32) &&& 31).toUInt32).toInt32) &&& (3 : Int32)))) f19 ⟨by decide, by decide⟩ rfl at_88 (rfl : 88 + 1 = 89) ?_
  refine g_daload X18 hx hby hZ e18 (v := (.double (own_pick (FP.i2d ((x1 &&& (7 : Int32)) - (4 : Int32))) (FP.i2d ((((x1.toUInt32 >>> ((3 : Int32) &&& 31).toUInt32).toInt32) &&& (7 : Int32)) - (4 : Int32))) (FP.i2d ((((x1.toUInt32 >>> ((6 : Int32) &&& 31).toUInt32).toInt32) &&& (7 : Int32)) - (4 : Int32))) (FP.i2d ((((x1.toUInt32 >>> ((9 : Int32) &&& 31).toUInt32).toInt32) &&& (7 : Int32)) - (4 : Int32))) (((x0.toUInt32 >>> ((2 : Int32) &&& 31).toUInt32).toInt32) &&& (3 : Int32))))) V18' ⟨(own_and3 _).1, (own_and3 _).2⟩ (own_pick_at (own_and3 _).1 (own_and3 _).2) at_89 (rfl : 89 + 1 = 90) ?_
  refine g_dstore X18 hx hby #[.val (.int x0), .val (.int x1), .val (.ref b8), .val (.ref b12), .val (.double (own_pick (FP.i2d ((x1 &&& (7 : Int32)) - (4 : Int32))) (FP.i2d ((((x1.toUInt32 >>> ((3 : Int32) &&& 31).toUInt32).toInt32) &&& (7 : Int32)) - (4 : Int32))) (FP.i2d ((((x1.toUInt32 >>> ((6 : Int32) &&& 31).toUInt32).toInt32) &&& (7 : Int32)) - (4 : Int32))) (FP.i2d ((((x1.toUInt32 >>> ((9 : Int32) &&& 31).toUInt32).toInt32) &&& (7 : Int32)) - (4 : Int32))) (x0 &&& (3 : Int32)))), .second, .val (.double (own_pick (FP.i2d ((x1 &&& (7 : Int32)) - (4 : Int32))) (FP.i2d ((((x1.toUInt32 >>> ((3 : Int32) &&& 31).toUInt32).toInt32) &&& (7 : Int32)) - (4 : Int32))) (FP.i2d ((((x1.toUInt32 >>> ((6 : Int32) &&& 31).toUInt32).toInt32) &&& (7 : Int32)) - (4 : Int32))) (FP.i2d ((((x1.toUInt32 >>> ((9 : Int32) &&& 31).toUInt32).toInt32) &&& (7 : Int32)) - (4 : Int32))) (((x0.toUInt32 >>> ((2 : Int32) &&& 31).toUInt32).toInt32) &&& (3 : Int32)))), .second, .unset, .unset, .unset, .unset] at_90 rfl (rfl : 90 + 2 = 92) ?_
  refine g_aloadN X18 hx hby at_92 rfl rfl (rfl : 92 + 1 = 93) ?_
  refine g_aloadN X18 hx hby at_93 rfl rfl (rfl : 93 + 1 = 94) ?_
  refine g_iconst X18 hx hby (2 : Int32) at_94 (by decide) (rfl : 94 + 1 = 95) ?_
  refine g_iaload X18 hx hby hZ e18 (v := (.int (((x0.toUInt32 >>> ((4 : Int32) &&& 31).toUInt32).toInt32) &&& (3 : Int32)))) f19 ⟨by decide, by decide⟩ rfl at_95 (rfl : 95 + 1 = 96) ?_
  refine g_daload X18 hx hby hZ e18 (v := (.double (own_pick (FP.i2d ((x1 &&& (7 : Int32)) - (4 : Int32))) (FP.i2d ((((x1.toUInt32 >>> ((3 : Int32) &&& 31).toUInt32).toInt32) &&& (7 : Int32)) - (4 : Int32))) (FP.i2d ((((x1.toUInt32 >>> ((6 : Int32) &&& 31).toUInt32).toInt32) &&& (7 : Int32)) - (4 : Int32))) (FP.i2d ((((x1.toUInt32 >>> ((9 : Int32) &&& 31).toUInt32).toInt32) &&& (7 : Int32)) - (4 : Int32))) (((x0.toUInt32 >>> ((4 : Int32) &&& 31).toUInt32).toInt32) &&& (3 : Int32))))) V18' ⟨(own_and3 _).1, (own_and3 _).2⟩ (own_pick_at (own_and3 _).1 (own_and3 _).2) at_96 (rfl : 96 + 1 = 97) ?_
  refine g_dstore X18 hx hby #[.val (.int x0), .val (.int x1), .val (.ref b8), .val (.ref b12), .val (.double (own_pick (FP.i2d ((x1 &&& (7 : Int32)) - (4 : Int32))) (FP.i2d ((((x1.toUInt32 >>> ((3 : Int32) &&& 31).toUInt32).toInt32) &&& (7 : Int32)) - (4 : Int32))) (FP.i2d ((((x1.toUInt32 >>> ((6 : Int32) &&& 31).toUInt32).toInt32) &&& (7 : Int32)) - (4 : Int32))) (FP.i2d ((((x1.toUInt32 >>> ((9 : Int32) &&& 31).toUInt32).toInt32) &&& (7 : Int32)) - (4 : Int32))) (x0 &&& (3 : Int32)))), .second, .val (.double (own_pick (FP.i2d ((x1 &&& (7 : Int32)) - (4 : Int32))) (FP.i2d ((((x1.toUInt32 >>> ((3 : Int32) &&& 31).toUInt32).toInt32) &&& (7 : Int32)) - (4 : Int32))) (FP.i2d ((((x1.toUInt32 >>> ((6 : Int32) &&& 31).toUInt32).toInt32) &&& (7 : Int32)) - (4 : Int32))) (FP.i2d ((((x1.toUInt32 >>> ((9 : Int32) &&& 31).toUInt32).toInt32) &&& (7 : Int32)) - (4 : Int32))) (((x0.toUInt32 >>> ((2 : Int32) &&& 31).toUInt32).toInt32) &&& (3 : Int32)))), .second, .val (.double (own_pick (FP.i2d ((x1 &&& (7 : Int32)) - (4 : Int32))) (FP.i2d ((((x1.toUInt32 >>> ((3 : Int32) &&& 31).toUInt32).toInt32) &&& (7 : Int32)) - (4 : Int32))) (FP.i2d ((((x1.toUInt32 >>> ((6 : Int32) &&& 31).toUInt32).toInt32) &&& (7 : Int32)) - (4 : Int32))) (FP.i2d ((((x1.toUInt32 >>> ((9 : Int32) &&& 31).toUInt32).toInt32) &&& (7 : Int32)) - (4 : Int32))) (((x0.toUInt32 >>> ((4 : Int32) &&& 31).toUInt32).toInt32) &&& (3 : Int32)))), .second, .unset, .unset] at_97 rfl (rfl : 97 + 2 = 99) ?_
  refine g_dload X18 hx hby at_99 rfl (rfl : 99 + 2 = 101) ?_
  refine g_dload X18 hx hby at_101 rfl (rfl : 101 + 2 = 103) ?_
  refine g_dcmp X18 hx hby at_103 (rfl : 103 + 1 = 104) ?_
  by_cases c20 : (cmpValue (FP.dcmp (own_pick (FP.i2d ((x1 &&& (7 : Int32)) - (4 : Int32))) (FP.i2d ((((x1.toUInt32 >>> ((3 : Int32) &&& 31).toUInt32).toInt32) &&& (7 : Int32)) - (4 : Int32))) (FP.i2d ((((x1.toUInt32 >>> ((6 : Int32) &&& 31).toUInt32).toInt32) &&& (7 : Int32)) - (4 : Int32))) (FP.i2d ((((x1.toUInt32 >>> ((9 : Int32) &&& 31).toUInt32).toInt32) &&& (7 : Int32)) - (4 : Int32))) (x0 &&& (3 : Int32))) (own_pick (FP.i2d ((x1 &&& (7 : Int32)) - (4 : Int32))) (FP.i2d ((((x1.toUInt32 >>> ((3 : Int32) &&& 31).toUInt32).toInt32) &&& (7 : Int32)) - (4 : Int32))) (FP.i2d ((((x1.toUInt32 >>> ((6 : Int32) &&& 31).toUInt32).toInt32) &&& (7 : Int32)) - (4 : Int32))) (FP.i2d ((((x1.toUInt32 >>> ((9 : Int32) &&& 31).toUInt32).toInt32) &&& (7 : Int32)) - (4 : Int32))) (((x0.toUInt32 >>> ((2 : Int32) &&& 31).toUInt32).toInt32) &&& (3 : Int32)))) .l) < (0 : Int32)
  · refine g_ifT X18 hx hby at_104 ((if0 _ _).trans (tlt c20).1) (by decide) (pc' := 123) (by decide) ?_
    refine g_dload X18 hx hby at_123 rfl (rfl : 123 + 2 = 125) ?_
    refine g_dload X18 hx hby at_125 rfl (rfl : 125 + 2 = 127) ?_
    refine g_dcmp X18 hx hby at_127 (rfl : 127 + 1 = 128) ?_
    by_cases c21 : (cmpValue (FP.dcmp (own_pick (FP.i2d ((x1 &&& (7 : Int32)) - (4 : Int32))) (FP.i2d ((((x1.toUInt32 >>> ((3 : Int32) &&& 31).toUInt32).toInt32) &&& (7 : Int32)) - (4 : Int32))) (FP.i2d ((((x1.toUInt32 >>> ((6 : Int32) &&& 31).toUInt32).toInt32) &&& (7 : Int32)) - (4 : Int32))) (FP.i2d ((((x1.toUInt32 >>> ((9 : Int32) &&& 31).toUInt32).toInt32) &&& (7 : Int32)) - (4 : Int32))) (((x0.toUInt32 >>> ((2 : Int32) &&& 31).toUInt32).toInt32) &&& (3 : Int32))) (own_pick (FP.i2d ((x1 &&& (7 : Int32)) - (4 : Int32))) (FP.i2d ((((x1.toUInt32 >>> ((3 : Int32) &&& 31).toUInt32).toInt32) &&& (7 : Int32)) - (4 : Int32))) (FP.i2d ((((x1.toUInt32 >>> ((6 : Int32) &&& 31).toUInt32).toInt32) &&& (7 : Int32)) - (4 : Int32))) (FP.i2d ((((x1.toUInt32 >>> ((9 : Int32) &&& 31).toUInt32).toInt32) &&& (7 : Int32)) - (4 : Int32))) (((x0.toUInt32 >>> ((4 : Int32) &&& 31).toUInt32).toInt32) &&& (3 : Int32)))) .l) < (0 : Int32)
    · refine g_ifT X18 hx hby at_128 ((if0 _ _).trans (tlt c21).1) (by decide) (pc' := 139) (by decide) ?_
      refine g_aloadN X18 hx hby at_139 rfl rfl (rfl : 139 + 1 = 140) ?_
      refine g_iconst X18 hx hby (2 : Int32) at_140 (by decide) (rfl : 140 + 1 = 141) ?_
      refine g_iaload X18 hx hby hZ e18 (v := (.int (((x0.toUInt32 >>> ((4 : Int32) &&& 31).toUInt32).toInt32) &&& (3 : Int32)))) f19 ⟨by decide, by decide⟩ rfl at_141 (rfl : 141 + 1 = 142) ?_
      refine g_istore X18 hx hby #[.val (.int x0), .val (.int x1), .val (.ref b8), .val (.ref b12), .val (.double (own_pick (FP.i2d ((x1 &&& (7 : Int32)) - (4 : Int32))) (FP.i2d ((((x1.toUInt32 >>> ((3 : Int32) &&& 31).toUInt32).toInt32) &&& (7 : Int32)) - (4 : Int32))) (FP.i2d ((((x1.toUInt32 >>> ((6 : Int32) &&& 31).toUInt32).toInt32) &&& (7 : Int32)) - (4 : Int32))) (FP.i2d ((((x1.toUInt32 >>> ((9 : Int32) &&& 31).toUInt32).toInt32) &&& (7 : Int32)) - (4 : Int32))) (x0 &&& (3 : Int32)))), .second, .val (.double (own_pick (FP.i2d ((x1 &&& (7 : Int32)) - (4 : Int32))) (FP.i2d ((((x1.toUInt32 >>> ((3 : Int32) &&& 31).toUInt32).toInt32) &&& (7 : Int32)) - (4 : Int32))) (FP.i2d ((((x1.toUInt32 >>> ((6 : Int32) &&& 31).toUInt32).toInt32) &&& (7 : Int32)) - (4 : Int32))) (FP.i2d ((((x1.toUInt32 >>> ((9 : Int32) &&& 31).toUInt32).toInt32) &&& (7 : Int32)) - (4 : Int32))) (((x0.toUInt32 >>> ((2 : Int32) &&& 31).toUInt32).toInt32) &&& (3 : Int32)))), .second, .val (.double (own_pick (FP.i2d ((x1 &&& (7 : Int32)) - (4 : Int32))) (FP.i2d ((((x1.toUInt32 >>> ((3 : Int32) &&& 31).toUInt32).toInt32) &&& (7 : Int32)) - (4 : Int32))) (FP.i2d ((((x1.toUInt32 >>> ((6 : Int32) &&& 31).toUInt32).toInt32) &&& (7 : Int32)) - (4 : Int32))) (FP.i2d ((((x1.toUInt32 >>> ((9 : Int32) &&& 31).toUInt32).toInt32) &&& (7 : Int32)) - (4 : Int32))) (((x0.toUInt32 >>> ((4 : Int32) &&& 31).toUInt32).toInt32) &&& (3 : Int32)))), .second, .val (.int (((x0.toUInt32 >>> ((4 : Int32) &&& 31).toUInt32).toInt32) &&& (3 : Int32))), .unset] at_142 rfl (rfl : 142 + 2 = 144) ?_
      refine g_aloadN X18 hx hby at_144 rfl rfl (rfl : 144 + 1 = 145) ?_
      refine g_aloadN X18 hx hby at_145 rfl rfl (rfl : 145 + 1 = 146) ?_
      obtain ⟨_, _, ⟨T22, L22, k22, n22⟩, -, X22, ⟨Lc22, hQ22, l22, y22, z22⟩, st22⟩ := Jvm.LawKit.callS X18 hx (y := (⟨"com/example/markov_lumper/markovlumper/solver/ErrorBound", "heldMember", "([I[D)I"⟩ : MethodName)) hown (mvT hZ (hw _ (List.mem_of_getElem? (i := 2) rfl))) (mvT hZ (hw _ (List.mem_of_getElem? (i := 3) rfl))) (mvT hZ (hw _ (List.mem_of_getElem? (i := 4) rfl))) (mvT hZ (hw _ (List.mem_of_getElem? (i := 5) rfl))) (by decide) (backOf (W := 0) (rm_held l Z aT hw [] b8 b12 k8 k12 (x0 &&& (3 : Int32)) (((x0.toUInt32 >>> ((2 : Int32) &&& 31).toUInt32).toInt32) &&& (3 : Int32)) (((x0.toUInt32 >>> ((4 : Int32) &&& 31).toUInt32).toInt32) &&& (3 : Int32)) (FP.i2d ((x1 &&& (7 : Int32)) - (4 : Int32))) (FP.i2d ((((x1.toUInt32 >>> ((3 : Int32) &&& 31).toUInt32).toInt32) &&& (7 : Int32)) - (4 : Int32))) (FP.i2d ((((x1.toUInt32 >>> ((6 : Int32) &&& 31).toUInt32).toInt32) &&& (7 : Int32)) - (4 : Int32))) (FP.i2d ((((x1.toUInt32 >>> ((9 : Int32) &&& 31).toUInt32).toInt32) &&& (7 : Int32)) - (4 : Int32))) h18 n0 Z18 f19 V18' (own_and3 _).1 (own_and3 _).2 (own_and3 _).1 (own_and3 _).2 (own_and3 _).1 (own_and3 _).2) hZ (hw _ (List.mem_of_getElem? (i := 5) rfl)) (hw _ (List.mem_of_getElem? (i := 4) rfl)) (by decide) (by decide)) (g := (mkF m 146 #[.val (.int x0), .val (.int x1), .val (.ref b8), .val (.ref b12), .val (.double (own_pick (FP.i2d ((x1 &&& (7 : Int32)) - (4 : Int32))) (FP.i2d ((((x1.toUInt32 >>> ((3 : Int32) &&& 31).toUInt32).toInt32) &&& (7 : Int32)) - (4 : Int32))) (FP.i2d ((((x1.toUInt32 >>> ((6 : Int32) &&& 31).toUInt32).toInt32) &&& (7 : Int32)) - (4 : Int32))) (FP.i2d ((((x1.toUInt32 >>> ((9 : Int32) &&& 31).toUInt32).toInt32) &&& (7 : Int32)) - (4 : Int32))) (x0 &&& (3 : Int32)))), .second, .val (.double (own_pick (FP.i2d ((x1 &&& (7 : Int32)) - (4 : Int32))) (FP.i2d ((((x1.toUInt32 >>> ((3 : Int32) &&& 31).toUInt32).toInt32) &&& (7 : Int32)) - (4 : Int32))) (FP.i2d ((((x1.toUInt32 >>> ((6 : Int32) &&& 31).toUInt32).toInt32) &&& (7 : Int32)) - (4 : Int32))) (FP.i2d ((((x1.toUInt32 >>> ((9 : Int32) &&& 31).toUInt32).toInt32) &&& (7 : Int32)) - (4 : Int32))) (((x0.toUInt32 >>> ((2 : Int32) &&& 31).toUInt32).toInt32) &&& (3 : Int32)))), .second, .val (.double (own_pick (FP.i2d ((x1 &&& (7 : Int32)) - (4 : Int32))) (FP.i2d ((((x1.toUInt32 >>> ((3 : Int32) &&& 31).toUInt32).toInt32) &&& (7 : Int32)) - (4 : Int32))) (FP.i2d ((((x1.toUInt32 >>> ((6 : Int32) &&& 31).toUInt32).toInt32) &&& (7 : Int32)) - (4 : Int32))) (FP.i2d ((((x1.toUInt32 >>> ((9 : Int32) &&& 31).toUInt32).toInt32) &&& (7 : Int32)) - (4 : Int32))) (((x0.toUInt32 >>> ((4 : Int32) &&& 31).toUInt32).toInt32) &&& (3 : Int32)))), .second, .val (.int (((x0.toUInt32 >>> ((4 : Int32) &&& 31).toUInt32).toInt32) &&& (3 : Int32))), .unset] [(.ref b12), (.ref b8)])) rfl (by rw [hml]; rfl) (argsL := [(.ref b8), (.ref b12)]) (rest := []) (lenOf pd0 rfl) rfl (by show 2 * 0 + _ ≤ _; exact Nat.le_of_eq rfl) (hb hby at_146) (fun _ _ => ⟨rfl, e18, (by decide : 2 + 0 ≤ _), (by decide : 7 + 0 ≤ _)⟩)
      dsimp only [Pt.U, Pt.locs, Pt.cells, Pt.slots] at X22 l22 y22 z22 st22 hQ22
      subst l22 y22 z22
      obtain ⟨rfl, N22q, eq22⟩ := hQ22
      have N22 := Fr.app N18 N22q
      refine own_go st22 ?_
      show own_Got p e below _ T22 (mkF m 149 #[.val (.int x0), .val (.int x1), .val (.ref b8), .val (.ref b12), .val (.double (own_pick (FP.i2d ((x1 &&& (7 : Int32)) - (4 : Int32))) (FP.i2d ((((x1.toUInt32 >>> ((3 : Int32) &&& 31).toUInt32).toInt32) &&& (7 : Int32)) - (4 : Int32))) (FP.i2d ((((x1.toUInt32 >>> ((6 : Int32) &&& 31).toUInt32).toInt32) &&& (7 : Int32)) - (4 : Int32))) (FP.i2d ((((x1.toUInt32 >>> ((9 : Int32) &&& 31).toUInt32).toInt32) &&& (7 : Int32)) - (4 : Int32))) (x0 &&& (3 : Int32)))), .second, .val (.double (own_pick (FP.i2d ((x1 &&& (7 : Int32)) - (4 : Int32))) (FP.i2d ((((x1.toUInt32 >>> ((3 : Int32) &&& 31).toUInt32).toInt32) &&& (7 : Int32)) - (4 : Int32))) (FP.i2d ((((x1.toUInt32 >>> ((6 : Int32) &&& 31).toUInt32).toInt32) &&& (7 : Int32)) - (4 : Int32))) (FP.i2d ((((x1.toUInt32 >>> ((9 : Int32) &&& 31).toUInt32).toInt32) &&& (7 : Int32)) - (4 : Int32))) (((x0.toUInt32 >>> ((2 : Int32) &&& 31).toUInt32).toInt32) &&& (3 : Int32)))), .second, .val (.double (own_pick (FP.i2d ((x1 &&& (7 : Int32)) - (4 : Int32))) (FP.i2d ((((x1.toUInt32 >>> ((3 : Int32) &&& 31).toUInt32).toInt32) &&& (7 : Int32)) - (4 : Int32))) (FP.i2d ((((x1.toUInt32 >>> ((6 : Int32) &&& 31).toUInt32).toInt32) &&& (7 : Int32)) - (4 : Int32))) (FP.i2d ((((x1.toUInt32 >>> ((9 : Int32) &&& 31).toUInt32).toInt32) &&& (7 : Int32)) - (4 : Int32))) (((x0.toUInt32 >>> ((4 : Int32) &&& 31).toUInt32).toInt32) &&& (3 : Int32)))), .second, .val (.int (((x0.toUInt32 >>> ((4 : Int32) &&& 31).toUInt32).toInt32) &&& (3 : Int32))), .unset] [(.int (F_held (x0 &&& (3 : Int32)) (((x0.toUInt32 >>> ((2 : Int32) &&& 31).toUInt32).toInt32) &&& (3 : Int32)) (((x0.toUInt32 >>> ((4 : Int32) &&& 31).toUInt32).toInt32) &&& (3 : Int32)) (FP.i2d ((x1 &&& (7 : Int32)) - (4 : Int32))) (FP.i2d ((((x1.toUInt32 >>> ((3 : Int32) &&& 31).toUInt32).toInt32) &&& (7 : Int32)) - (4 : Int32))) (FP.i2d ((((x1.toUInt32 >>> ((6 : Int32) &&& 31).toUInt32).toInt32) &&& (7 : Int32)) - (4 : Int32))) (FP.i2d ((((x1.toUInt32 >>> ((9 : Int32) &&& 31).toUInt32).toInt32) &&& (7 : Int32)) - (4 : Int32)))))])
      refine g_istore X22 hx hby #[.val (.int x0), .val (.int x1), .val (.ref b8), .val (.ref b12), .val (.double (own_pick (FP.i2d ((x1 &&& (7 : Int32)) - (4 : Int32))) (FP.i2d ((((x1.toUInt32 >>> ((3 : Int32) &&& 31).toUInt32).toInt32) &&& (7 : Int32)) - (4 : Int32))) (FP.i2d ((((x1.toUInt32 >>> ((6 : Int32) &&& 31).toUInt32).toInt32) &&& (7 : Int32)) - (4 : Int32))) (FP.i2d ((((x1.toUInt32 >>> ((9 : Int32) &&& 31).toUInt32).toInt32) &&& (7 : Int32)) - (4 : Int32))) (x0 &&& (3 : Int32)))), .second, .val (.double (own_pick (FP.i2d ((x1 &&& (7 : Int32)) - (4 : Int32))) (FP.i2d ((((x1.toUInt32 >>> ((3 : Int32) &&& 31).toUInt32).toInt32) &&& (7 : Int32)) - (4 : Int32))) (FP.i2d ((((x1.toUInt32 >>> ((6 : Int32) &&& 31).toUInt32).toInt32) &&& (7 : Int32)) - (4 : Int32))) (FP.i2d ((((x1.toUInt32 >>> ((9 : Int32) &&& 31).toUInt32).toInt32) &&& (7 : Int32)) - (4 : Int32))) (((x0.toUInt32 >>> ((2 : Int32) &&& 31).toUInt32).toInt32) &&& (3 : Int32)))), .second, .val (.double (own_pick (FP.i2d ((x1 &&& (7 : Int32)) - (4 : Int32))) (FP.i2d ((((x1.toUInt32 >>> ((3 : Int32) &&& 31).toUInt32).toInt32) &&& (7 : Int32)) - (4 : Int32))) (FP.i2d ((((x1.toUInt32 >>> ((6 : Int32) &&& 31).toUInt32).toInt32) &&& (7 : Int32)) - (4 : Int32))) (FP.i2d ((((x1.toUInt32 >>> ((9 : Int32) &&& 31).toUInt32).toInt32) &&& (7 : Int32)) - (4 : Int32))) (((x0.toUInt32 >>> ((4 : Int32) &&& 31).toUInt32).toInt32) &&& (3 : Int32)))), .second, .val (.int (((x0.toUInt32 >>> ((4 : Int32) &&& 31).toUInt32).toInt32) &&& (3 : Int32))), .val (.int (F_held (x0 &&& (3 : Int32)) (((x0.toUInt32 >>> ((2 : Int32) &&& 31).toUInt32).toInt32) &&& (3 : Int32)) (((x0.toUInt32 >>> ((4 : Int32) &&& 31).toUInt32).toInt32) &&& (3 : Int32)) (FP.i2d ((x1 &&& (7 : Int32)) - (4 : Int32))) (FP.i2d ((((x1.toUInt32 >>> ((3 : Int32) &&& 31).toUInt32).toInt32) &&& (7 : Int32)) - (4 : Int32))) (FP.i2d ((((x1.toUInt32 >>> ((6 : Int32) &&& 31).toUInt32).toInt32) &&& (7 : Int32)) - (4 : Int32))) (FP.i2d ((((x1.toUInt32 >>> ((9 : Int32) &&& 31).toUInt32).toInt32) &&& (7 : Int32)) - (4 : Int32)))))] at_149 rfl (rfl : 149 + 2 = 151) ?_
      refine g_iload X22 hx hby at_151 rfl (rfl : 151 + 2 = 153) ?_
      refine g_iload X22 hx hby at_153 rfl (rfl : 153 + 2 = 155) ?_
      by_cases c23 : (F_held (x0 &&& (3 : Int32)) (((x0.toUInt32 >>> ((2 : Int32) &&& 31).toUInt32).toInt32) &&& (3 : Int32)) (((x0.toUInt32 >>> ((4 : Int32) &&& 31).toUInt32).toInt32) &&& (3 : Int32)) (FP.i2d ((x1 &&& (7 : Int32)) - (4 : Int32))) (FP.i2d ((((x1.toUInt32 >>> ((3 : Int32) &&& 31).toUInt32).toInt32) &&& (7 : Int32)) - (4 : Int32))) (FP.i2d ((((x1.toUInt32 >>> ((6 : Int32) &&& 31).toUInt32).toInt32) &&& (7 : Int32)) - (4 : Int32))) (FP.i2d ((((x1.toUInt32 >>> ((9 : Int32) &&& 31).toUInt32).toInt32) &&& (7 : Int32)) - (4 : Int32)))) = (((x0.toUInt32 >>> ((4 : Int32) &&& 31).toUInt32).toInt32) &&& (3 : Int32))
      · refine g_icF X22 hx hby at_155 (teq c23).2 (rfl : 155 + 3 = 158) ?_
        refine g_iconst X22 hx hby (1 : Int32) at_158 (by decide) (rfl : 158 + 1 = 159) ?_
        refine g_goto X22 hx hby at_159 (by decide) (pc' := 163) (by decide) ?_
        refine own_retN X22 hx hby hlk (t := .boolean) hrt (by simp) at_163 (by decide) (by decide) ?_
        show Q_law Z x0 x1 h0 n0 _ T22.heap _
        exact ⟨(congrArg (fun z => some (Value.int z)) (by rw [F_law, if_pos c20, if_pos c21, if_pos c23] <;> rfl)), N22⟩
      · refine g_icT X22 hx hby at_155 (feq c23).2 (by decide) (pc' := 162) (by decide) ?_
        refine g_iconst X22 hx hby (0 : Int32) at_162 (by decide) (rfl : 162 + 1 = 163) ?_
        refine own_retN X22 hx hby hlk (t := .boolean) hrt (by simp) at_163 (by decide) (by decide) ?_
        show Q_law Z x0 x1 h0 n0 _ T22.heap _
        exact ⟨(congrArg (fun z => some (Value.int z)) (by rw [F_law, if_pos c20, if_pos c21, if_neg c23] <;> rfl)), N22⟩
    · refine g_ifF X18 hx hby at_128 ((if0 _ _).trans (flt c21).1) (rfl : 128 + 3 = 131) ?_
      refine g_aloadN X18 hx hby at_131 rfl rfl (rfl : 131 + 1 = 132) ?_
      refine g_iconst X18 hx hby (1 : Int32) at_132 (by decide) (rfl : 132 + 1 = 133) ?_
      refine g_iaload X18 hx hby hZ e18 (v := (.int (((x0.toUInt32 >>> ((2 : Int32) &&& 31).toUInt32).toInt32) &&& (3 : Int32)))) f19 ⟨by decide, by decide⟩ rfl at_133 (rfl : 133 + 1 = 134) ?_
      refine g_istore X18 hx hby #[.val (.int x0), .val (.int x1), .val (.ref b8), .val (.ref b12), .val (.double (own_pick (FP.i2d ((x1 &&& (7 : Int32)) - (4 : Int32))) (FP.i2d ((((x1.toUInt32 >>> ((3 : Int32) &&& 31).toUInt32).toInt32) &&& (7 : Int32)) - (4 : Int32))) (FP.i2d ((((x1.toUInt32 >>> ((6 : Int32) &&& 31).toUInt32).toInt32) &&& (7 : Int32)) - (4 : Int32))) (FP.i2d ((((x1.toUInt32 >>> ((9 : Int32) &&& 31).toUInt32).toInt32) &&& (7 : Int32)) - (4 : Int32))) (x0 &&& (3 : Int32)))), .second, .val (.double (own_pick (FP.i2d ((x1 &&& (7 : Int32)) - (4 : Int32))) (FP.i2d ((((x1.toUInt32 >>> ((3 : Int32) &&& 31).toUInt32).toInt32) &&& (7 : Int32)) - (4 : Int32))) (FP.i2d ((((x1.toUInt32 >>> ((6 : Int32) &&& 31).toUInt32).toInt32) &&& (7 : Int32)) - (4 : Int32))) (FP.i2d ((((x1.toUInt32 >>> ((9 : Int32) &&& 31).toUInt32).toInt32) &&& (7 : Int32)) - (4 : Int32))) (((x0.toUInt32 >>> ((2 : Int32) &&& 31).toUInt32).toInt32) &&& (3 : Int32)))), .second, .val (.double (own_pick (FP.i2d ((x1 &&& (7 : Int32)) - (4 : Int32))) (FP.i2d ((((x1.toUInt32 >>> ((3 : Int32) &&& 31).toUInt32).toInt32) &&& (7 : Int32)) - (4 : Int32))) (FP.i2d ((((x1.toUInt32 >>> ((6 : Int32) &&& 31).toUInt32).toInt32) &&& (7 : Int32)) - (4 : Int32))) (FP.i2d ((((x1.toUInt32 >>> ((9 : Int32) &&& 31).toUInt32).toInt32) &&& (7 : Int32)) - (4 : Int32))) (((x0.toUInt32 >>> ((4 : Int32) &&& 31).toUInt32).toInt32) &&& (3 : Int32)))), .second, .val (.int (((x0.toUInt32 >>> ((2 : Int32) &&& 31).toUInt32).toInt32) &&& (3 : Int32))), .unset] at_134 rfl (rfl : 134 + 2 = 136) ?_
      refine g_goto X18 hx hby at_136 (by decide) (pc' := 144) (by decide) ?_
      refine g_aloadN X18 hx hby at_144 rfl rfl (rfl : 144 + 1 = 145) ?_
      refine g_aloadN X18 hx hby at_145 rfl rfl (rfl : 145 + 1 = 146) ?_
      obtain ⟨_, _, ⟨T24, L24, k24, n24⟩, -, X24, ⟨Lc24, hQ24, l24, y24, z24⟩, st24⟩ := Jvm.LawKit.callS X18 hx (y := (⟨"com/example/markov_lumper/markovlumper/solver/ErrorBound", "heldMember", "([I[D)I"⟩ : MethodName)) hown (mvT hZ (hw _ (List.mem_of_getElem? (i := 2) rfl))) (mvT hZ (hw _ (List.mem_of_getElem? (i := 3) rfl))) (mvT hZ (hw _ (List.mem_of_getElem? (i := 4) rfl))) (mvT hZ (hw _ (List.mem_of_getElem? (i := 5) rfl))) (by decide) (backOf (W := 0) (rm_held l Z aT hw [] b8 b12 k8 k12 (x0 &&& (3 : Int32)) (((x0.toUInt32 >>> ((2 : Int32) &&& 31).toUInt32).toInt32) &&& (3 : Int32)) (((x0.toUInt32 >>> ((4 : Int32) &&& 31).toUInt32).toInt32) &&& (3 : Int32)) (FP.i2d ((x1 &&& (7 : Int32)) - (4 : Int32))) (FP.i2d ((((x1.toUInt32 >>> ((3 : Int32) &&& 31).toUInt32).toInt32) &&& (7 : Int32)) - (4 : Int32))) (FP.i2d ((((x1.toUInt32 >>> ((6 : Int32) &&& 31).toUInt32).toInt32) &&& (7 : Int32)) - (4 : Int32))) (FP.i2d ((((x1.toUInt32 >>> ((9 : Int32) &&& 31).toUInt32).toInt32) &&& (7 : Int32)) - (4 : Int32))) h18 n0 Z18 f19 V18' (own_and3 _).1 (own_and3 _).2 (own_and3 _).1 (own_and3 _).2 (own_and3 _).1 (own_and3 _).2) hZ (hw _ (List.mem_of_getElem? (i := 5) rfl)) (hw _ (List.mem_of_getElem? (i := 4) rfl)) (by decide) (by decide)) (g := (mkF m 146 #[.val (.int x0), .val (.int x1), .val (.ref b8), .val (.ref b12), .val (.double (own_pick (FP.i2d ((x1 &&& (7 : Int32)) - (4 : Int32))) (FP.i2d ((((x1.toUInt32 >>> ((3 : Int32) &&& 31).toUInt32).toInt32) &&& (7 : Int32)) - (4 : Int32))) (FP.i2d ((((x1.toUInt32 >>> ((6 : Int32) &&& 31).toUInt32).toInt32) &&& (7 : Int32)) - (4 : Int32))) (FP.i2d ((((x1.toUInt32 >>> ((9 : Int32) &&& 31).toUInt32).toInt32) &&& (7 : Int32)) - (4 : Int32))) (x0 &&& (3 : Int32)))), .second, .val (.double (own_pick (FP.i2d ((x1 &&& (7 : Int32)) - (4 : Int32))) (FP.i2d ((((x1.toUInt32 >>> ((3 : Int32) &&& 31).toUInt32).toInt32) &&& (7 : Int32)) - (4 : Int32))) (FP.i2d ((((x1.toUInt32 >>> ((6 : Int32) &&& 31).toUInt32).toInt32) &&& (7 : Int32)) - (4 : Int32))) (FP.i2d ((((x1.toUInt32 >>> ((9 : Int32) &&& 31).toUInt32).toInt32) &&& (7 : Int32)) - (4 : Int32))) (((x0.toUInt32 >>> ((2 : Int32) &&& 31).toUInt32).toInt32) &&& (3 : Int32)))), .second, .val (.double (own_pick (FP.i2d ((x1 &&& (7 : Int32)) - (4 : Int32))) (FP.i2d ((((x1.toUInt32 >>> ((3 : Int32) &&& 31).toUInt32).toInt32) &&& (7 : Int32)) - (4 : Int32))) (FP.i2d ((((x1.toUInt32 >>> ((6 : Int32) &&& 31).toUInt32).toInt32) &&& (7 : Int32)) - (4 : Int32))) (FP.i2d ((((x1.toUInt32 >>> ((9 : Int32) &&& 31).toUInt32).toInt32) &&& (7 : Int32)) - (4 : Int32))) (((x0.toUInt32 >>> ((4 : Int32) &&& 31).toUInt32).toInt32) &&& (3 : Int32)))), .second, .val (.int (((x0.toUInt32 >>> ((2 : Int32) &&& 31).toUInt32).toInt32) &&& (3 : Int32))), .unset] [(.ref b12), (.ref b8)])) rfl (by rw [hml]; rfl) (argsL := [(.ref b8), (.ref b12)]) (rest := []) (lenOf pd0 rfl) rfl (by show 2 * 0 + _ ≤ _; exact Nat.le_of_eq rfl) (hb hby at_146) (fun _ _ => ⟨rfl, e18, (by decide : 2 + 0 ≤ _), (by decide : 7 + 0 ≤ _)⟩)
      dsimp only [Pt.U, Pt.locs, Pt.cells, Pt.slots] at X24 l24 y24 z24 st24 hQ24
      subst l24 y24 z24
      obtain ⟨rfl, N24q, eq24⟩ := hQ24
      have N24 := Fr.app N18 N24q
      refine own_go st24 ?_
      show own_Got p e below _ T24 (mkF m 149 #[.val (.int x0), .val (.int x1), .val (.ref b8), .val (.ref b12), .val (.double (own_pick (FP.i2d ((x1 &&& (7 : Int32)) - (4 : Int32))) (FP.i2d ((((x1.toUInt32 >>> ((3 : Int32) &&& 31).toUInt32).toInt32) &&& (7 : Int32)) - (4 : Int32))) (FP.i2d ((((x1.toUInt32 >>> ((6 : Int32) &&& 31).toUInt32).toInt32) &&& (7 : Int32)) - (4 : Int32))) (FP.i2d ((((x1.toUInt32 >>> ((9 : Int32) &&& 31).toUInt32).toInt32) &&& (7 : Int32)) - (4 : Int32))) (x0 &&& (3 : Int32)))), .second, .val (.double (own_pick (FP.i2d ((x1 &&& (7 : Int32)) - (4 : Int32))) (FP.i2d ((((x1.toUInt32 >>> ((3 : Int32) &&& 31).toUInt32).toInt32) &&& (7 : Int32)) - (4 : Int32))) (FP.i2d ((((x1.toUInt32 >>> ((6 : Int32) &&& 31).toUInt32).toInt32) &&& (7 : Int32)) - (4 : Int32))) (FP.i2d ((((x1.toUInt32 >>> ((9 : Int32) &&& 31).toUInt32).toInt32) &&& (7 : Int32)) - (4 : Int32))) (((x0.toUInt32 >>> ((2 : Int32) &&& 31).toUInt32).toInt32) &&& (3 : Int32)))), .second, .val (.double (own_pick (FP.i2d ((x1 &&& (7 : Int32)) - (4 : Int32))) (FP.i2d ((((x1.toUInt32 >>> ((3 : Int32) &&& 31).toUInt32).toInt32) &&& (7 : Int32)) - (4 : Int32))) (FP.i2d ((((x1.toUInt32 >>> ((6 : Int32) &&& 31).toUInt32).toInt32) &&& (7 : Int32)) - (4 : Int32))) (FP.i2d ((((x1.toUInt32 >>> ((9 : Int32) &&& 31).toUInt32).toInt32) &&& (7 : Int32)) - (4 : Int32))) (((x0.toUInt32 >>> ((4 : Int32) &&& 31).toUInt32).toInt32) &&& (3 : Int32)))), .second, .val (.int (((x0.toUInt32 >>> ((2 : Int32) &&& 31).toUInt32).toInt32) &&& (3 : Int32))), .unset] [(.int (F_held (x0 &&& (3 : Int32)) (((x0.toUInt32 >>> ((2 : Int32) &&& 31).toUInt32).toInt32) &&& (3 : Int32)) (((x0.toUInt32 >>> ((4 : Int32) &&& 31).toUInt32).toInt32) &&& (3 : Int32)) (FP.i2d ((x1 &&& (7 : Int32)) - (4 : Int32))) (FP.i2d ((((x1.toUInt32 >>> ((3 : Int32) &&& 31).toUInt32).toInt32) &&& (7 : Int32)) - (4 : Int32))) (FP.i2d ((((x1.toUInt32 >>> ((6 : Int32) &&& 31).toUInt32).toInt32) &&& (7 : Int32)) - (4 : Int32))) (FP.i2d ((((x1.toUInt32 >>> ((9 : Int32) &&& 31).toUInt32).toInt32) &&& (7 : Int32)) - (4 : Int32)))))])
      refine g_istore X24 hx hby #[.val (.int x0), .val (.int x1), .val (.ref b8), .val (.ref b12), .val (.double (own_pick (FP.i2d ((x1 &&& (7 : Int32)) - (4 : Int32))) (FP.i2d ((((x1.toUInt32 >>> ((3 : Int32) &&& 31).toUInt32).toInt32) &&& (7 : Int32)) - (4 : Int32))) (FP.i2d ((((x1.toUInt32 >>> ((6 : Int32) &&& 31).toUInt32).toInt32) &&& (7 : Int32)) - (4 : Int32))) (FP.i2d ((((x1.toUInt32 >>> ((9 : Int32) &&& 31).toUInt32).toInt32) &&& (7 : Int32)) - (4 : Int32))) (x0 &&& (3 : Int32)))), .second, .val (.double (own_pick (FP.i2d ((x1 &&& (7 : Int32)) - (4 : Int32))) (FP.i2d ((((x1.toUInt32 >>> ((3 : Int32) &&& 31).toUInt32).toInt32) &&& (7 : Int32)) - (4 : Int32))) (FP.i2d ((((x1.toUInt32 >>> ((6 : Int32) &&& 31).toUInt32).toInt32) &&& (7 : Int32)) - (4 : Int32))) (FP.i2d ((((x1.toUInt32 >>> ((9 : Int32) &&& 31).toUInt32).toInt32) &&& (7 : Int32)) - (4 : Int32))) (((x0.toUInt32 >>> ((2 : Int32) &&& 31).toUInt32).toInt32) &&& (3 : Int32)))), .second, .val (.double (own_pick (FP.i2d ((x1 &&& (7 : Int32)) - (4 : Int32))) (FP.i2d ((((x1.toUInt32 >>> ((3 : Int32) &&& 31).toUInt32).toInt32) &&& (7 : Int32)) - (4 : Int32))) (FP.i2d ((((x1.toUInt32 >>> ((6 : Int32) &&& 31).toUInt32).toInt32) &&& (7 : Int32)) - (4 : Int32))) (FP.i2d ((((x1.toUInt32 >>> ((9 : Int32) &&& 31).toUInt32).toInt32) &&& (7 : Int32)) - (4 : Int32))) (((x0.toUInt32 >>> ((4 : Int32) &&& 31).toUInt32).toInt32) &&& (3 : Int32)))), .second, .val (.int (((x0.toUInt32 >>> ((2 : Int32) &&& 31).toUInt32).toInt32) &&& (3 : Int32))), .val (.int (F_held (x0 &&& (3 : Int32)) (((x0.toUInt32 >>> ((2 : Int32) &&& 31).toUInt32).toInt32) &&& (3 : Int32)) (((x0.toUInt32 >>> ((4 : Int32) &&& 31).toUInt32).toInt32) &&& (3 : Int32)) (FP.i2d ((x1 &&& (7 : Int32)) - (4 : Int32))) (FP.i2d ((((x1.toUInt32 >>> ((3 : Int32) &&& 31).toUInt32).toInt32) &&& (7 : Int32)) - (4 : Int32))) (FP.i2d ((((x1.toUInt32 >>> ((6 : Int32) &&& 31).toUInt32).toInt32) &&& (7 : Int32)) - (4 : Int32))) (FP.i2d ((((x1.toUInt32 >>> ((9 : Int32) &&& 31).toUInt32).toInt32) &&& (7 : Int32)) - (4 : Int32)))))] at_149 rfl (rfl : 149 + 2 = 151) ?_
      refine g_iload X24 hx hby at_151 rfl (rfl : 151 + 2 = 153) ?_
      refine g_iload X24 hx hby at_153 rfl (rfl : 153 + 2 = 155) ?_
      by_cases c25 : (F_held (x0 &&& (3 : Int32)) (((x0.toUInt32 >>> ((2 : Int32) &&& 31).toUInt32).toInt32) &&& (3 : Int32)) (((x0.toUInt32 >>> ((4 : Int32) &&& 31).toUInt32).toInt32) &&& (3 : Int32)) (FP.i2d ((x1 &&& (7 : Int32)) - (4 : Int32))) (FP.i2d ((((x1.toUInt32 >>> ((3 : Int32) &&& 31).toUInt32).toInt32) &&& (7 : Int32)) - (4 : Int32))) (FP.i2d ((((x1.toUInt32 >>> ((6 : Int32) &&& 31).toUInt32).toInt32) &&& (7 : Int32)) - (4 : Int32))) (FP.i2d ((((x1.toUInt32 >>> ((9 : Int32) &&& 31).toUInt32).toInt32) &&& (7 : Int32)) - (4 : Int32)))) = (((x0.toUInt32 >>> ((2 : Int32) &&& 31).toUInt32).toInt32) &&& (3 : Int32))
      · refine g_icF X24 hx hby at_155 (teq c25).2 (rfl : 155 + 3 = 158) ?_
        refine g_iconst X24 hx hby (1 : Int32) at_158 (by decide) (rfl : 158 + 1 = 159) ?_
        refine g_goto X24 hx hby at_159 (by decide) (pc' := 163) (by decide) ?_
        refine own_retN X24 hx hby hlk (t := .boolean) hrt (by simp) at_163 (by decide) (by decide) ?_
        show Q_law Z x0 x1 h0 n0 _ T24.heap _
        exact ⟨(congrArg (fun z => some (Value.int z)) (by rw [F_law, if_pos c20, if_neg c21, if_pos c25] <;> rfl)), N24⟩
      · refine g_icT X24 hx hby at_155 (feq c25).2 (by decide) (pc' := 162) (by decide) ?_
        refine g_iconst X24 hx hby (0 : Int32) at_162 (by decide) (rfl : 162 + 1 = 163) ?_
        refine own_retN X24 hx hby hlk (t := .boolean) hrt (by simp) at_163 (by decide) (by decide) ?_
        show Q_law Z x0 x1 h0 n0 _ T24.heap _
        exact ⟨(congrArg (fun z => some (Value.int z)) (by rw [F_law, if_pos c20, if_neg c21, if_neg c25] <;> rfl)), N24⟩
  · refine g_ifF X18 hx hby at_104 ((if0 _ _).trans (flt c20).1) (rfl : 104 + 3 = 107) ?_
    refine g_dload X18 hx hby at_107 rfl (rfl : 107 + 2 = 109) ?_
    refine g_dload X18 hx hby at_109 rfl (rfl : 109 + 2 = 111) ?_
    refine g_dcmp X18 hx hby at_111 (rfl : 111 + 1 = 112) ?_
    by_cases c26 : (cmpValue (FP.dcmp (own_pick (FP.i2d ((x1 &&& (7 : Int32)) - (4 : Int32))) (FP.i2d ((((x1.toUInt32 >>> ((3 : Int32) &&& 31).toUInt32).toInt32) &&& (7 : Int32)) - (4 : Int32))) (FP.i2d ((((x1.toUInt32 >>> ((6 : Int32) &&& 31).toUInt32).toInt32) &&& (7 : Int32)) - (4 : Int32))) (FP.i2d ((((x1.toUInt32 >>> ((9 : Int32) &&& 31).toUInt32).toInt32) &&& (7 : Int32)) - (4 : Int32))) (x0 &&& (3 : Int32))) (own_pick (FP.i2d ((x1 &&& (7 : Int32)) - (4 : Int32))) (FP.i2d ((((x1.toUInt32 >>> ((3 : Int32) &&& 31).toUInt32).toInt32) &&& (7 : Int32)) - (4 : Int32))) (FP.i2d ((((x1.toUInt32 >>> ((6 : Int32) &&& 31).toUInt32).toInt32) &&& (7 : Int32)) - (4 : Int32))) (FP.i2d ((((x1.toUInt32 >>> ((9 : Int32) &&& 31).toUInt32).toInt32) &&& (7 : Int32)) - (4 : Int32))) (((x0.toUInt32 >>> ((4 : Int32) &&& 31).toUInt32).toInt32) &&& (3 : Int32)))) .l) < (0 : Int32)
    · refine g_ifT X18 hx hby at_112 ((if0 _ _).trans (tlt c26).1) (by decide) (pc' := 123) (by decide) ?_
      refine g_dload X18 hx hby at_123 rfl (rfl : 123 + 2 = 125) ?_
      refine g_dload X18 hx hby at_125 rfl (rfl : 125 + 2 = 127) ?_
      refine g_dcmp X18 hx hby at_127 (rfl : 127 + 1 = 128) ?_
      by_cases c27 : (cmpValue (FP.dcmp (own_pick (FP.i2d ((x1 &&& (7 : Int32)) - (4 : Int32))) (FP.i2d ((((x1.toUInt32 >>> ((3 : Int32) &&& 31).toUInt32).toInt32) &&& (7 : Int32)) - (4 : Int32))) (FP.i2d ((((x1.toUInt32 >>> ((6 : Int32) &&& 31).toUInt32).toInt32) &&& (7 : Int32)) - (4 : Int32))) (FP.i2d ((((x1.toUInt32 >>> ((9 : Int32) &&& 31).toUInt32).toInt32) &&& (7 : Int32)) - (4 : Int32))) (((x0.toUInt32 >>> ((2 : Int32) &&& 31).toUInt32).toInt32) &&& (3 : Int32))) (own_pick (FP.i2d ((x1 &&& (7 : Int32)) - (4 : Int32))) (FP.i2d ((((x1.toUInt32 >>> ((3 : Int32) &&& 31).toUInt32).toInt32) &&& (7 : Int32)) - (4 : Int32))) (FP.i2d ((((x1.toUInt32 >>> ((6 : Int32) &&& 31).toUInt32).toInt32) &&& (7 : Int32)) - (4 : Int32))) (FP.i2d ((((x1.toUInt32 >>> ((9 : Int32) &&& 31).toUInt32).toInt32) &&& (7 : Int32)) - (4 : Int32))) (((x0.toUInt32 >>> ((4 : Int32) &&& 31).toUInt32).toInt32) &&& (3 : Int32)))) .l) < (0 : Int32)
      · refine g_ifT X18 hx hby at_128 ((if0 _ _).trans (tlt c27).1) (by decide) (pc' := 139) (by decide) ?_
        refine g_aloadN X18 hx hby at_139 rfl rfl (rfl : 139 + 1 = 140) ?_
        refine g_iconst X18 hx hby (2 : Int32) at_140 (by decide) (rfl : 140 + 1 = 141) ?_
        refine g_iaload X18 hx hby hZ e18 (v := (.int (((x0.toUInt32 >>> ((4 : Int32) &&& 31).toUInt32).toInt32) &&& (3 : Int32)))) f19 ⟨by decide, by decide⟩ rfl at_141 (rfl : 141 + 1 = 142) ?_
        refine g_istore X18 hx hby #[.val (.int x0), .val (.int x1), .val (.ref b8), .val (.ref b12), .val (.double (own_pick (FP.i2d ((x1 &&& (7 : Int32)) - (4 : Int32))) (FP.i2d ((((x1.toUInt32 >>> ((3 : Int32) &&& 31).toUInt32).toInt32) &&& (7 : Int32)) - (4 : Int32))) (FP.i2d ((((x1.toUInt32 >>> ((6 : Int32) &&& 31).toUInt32).toInt32) &&& (7 : Int32)) - (4 : Int32))) (FP.i2d ((((x1.toUInt32 >>> ((9 : Int32) &&& 31).toUInt32).toInt32) &&& (7 : Int32)) - (4 : Int32))) (x0 &&& (3 : Int32)))), .second, .val (.double (own_pick (FP.i2d ((x1 &&& (7 : Int32)) - (4 : Int32))) (FP.i2d ((((x1.toUInt32 >>> ((3 : Int32) &&& 31).toUInt32).toInt32) &&& (7 : Int32)) - (4 : Int32))) (FP.i2d ((((x1.toUInt32 >>> ((6 : Int32) &&& 31).toUInt32).toInt32) &&& (7 : Int32)) - (4 : Int32))) (FP.i2d ((((x1.toUInt32 >>> ((9 : Int32) &&& 31).toUInt32).toInt32) &&& (7 : Int32)) - (4 : Int32))) (((x0.toUInt32 >>> ((2 : Int32) &&& 31).toUInt32).toInt32) &&& (3 : Int32)))), .second, .val (.double (own_pick (FP.i2d ((x1 &&& (7 : Int32)) - (4 : Int32))) (FP.i2d ((((x1.toUInt32 >>> ((3 : Int32) &&& 31).toUInt32).toInt32) &&& (7 : Int32)) - (4 : Int32))) (FP.i2d ((((x1.toUInt32 >>> ((6 : Int32) &&& 31).toUInt32).toInt32) &&& (7 : Int32)) - (4 : Int32))) (FP.i2d ((((x1.toUInt32 >>> ((9 : Int32) &&& 31).toUInt32).toInt32) &&& (7 : Int32)) - (4 : Int32))) (((x0.toUInt32 >>> ((4 : Int32) &&& 31).toUInt32).toInt32) &&& (3 : Int32)))), .second, .val (.int (((x0.toUInt32 >>> ((4 : Int32) &&& 31).toUInt32).toInt32) &&& (3 : Int32))), .unset] at_142 rfl (rfl : 142 + 2 = 144) ?_
        refine g_aloadN X18 hx hby at_144 rfl rfl (rfl : 144 + 1 = 145) ?_
        refine g_aloadN X18 hx hby at_145 rfl rfl (rfl : 145 + 1 = 146) ?_
        obtain ⟨_, _, ⟨T28, L28, k28, n28⟩, -, X28, ⟨Lc28, hQ28, l28, y28, z28⟩, st28⟩ := Jvm.LawKit.callS X18 hx (y := (⟨"com/example/markov_lumper/markovlumper/solver/ErrorBound", "heldMember", "([I[D)I"⟩ : MethodName)) hown (mvT hZ (hw _ (List.mem_of_getElem? (i := 2) rfl))) (mvT hZ (hw _ (List.mem_of_getElem? (i := 3) rfl))) (mvT hZ (hw _ (List.mem_of_getElem? (i := 4) rfl))) (mvT hZ (hw _ (List.mem_of_getElem? (i := 5) rfl))) (by decide) (backOf (W := 0) (rm_held l Z aT hw [] b8 b12 k8 k12 (x0 &&& (3 : Int32)) (((x0.toUInt32 >>> ((2 : Int32) &&& 31).toUInt32).toInt32) &&& (3 : Int32)) (((x0.toUInt32 >>> ((4 : Int32) &&& 31).toUInt32).toInt32) &&& (3 : Int32)) (FP.i2d ((x1 &&& (7 : Int32)) - (4 : Int32))) (FP.i2d ((((x1.toUInt32 >>> ((3 : Int32) &&& 31).toUInt32).toInt32) &&& (7 : Int32)) - (4 : Int32))) (FP.i2d ((((x1.toUInt32 >>> ((6 : Int32) &&& 31).toUInt32).toInt32) &&& (7 : Int32)) - (4 : Int32))) (FP.i2d ((((x1.toUInt32 >>> ((9 : Int32) &&& 31).toUInt32).toInt32) &&& (7 : Int32)) - (4 : Int32))) h18 n0 Z18 f19 V18' (own_and3 _).1 (own_and3 _).2 (own_and3 _).1 (own_and3 _).2 (own_and3 _).1 (own_and3 _).2) hZ (hw _ (List.mem_of_getElem? (i := 5) rfl)) (hw _ (List.mem_of_getElem? (i := 4) rfl)) (by decide) (by decide)) (g := (mkF m 146 #[.val (.int x0), .val (.int x1), .val (.ref b8), .val (.ref b12), .val (.double (own_pick (FP.i2d ((x1 &&& (7 : Int32)) - (4 : Int32))) (FP.i2d ((((x1.toUInt32 >>> ((3 : Int32) &&& 31).toUInt32).toInt32) &&& (7 : Int32)) - (4 : Int32))) (FP.i2d ((((x1.toUInt32 >>> ((6 : Int32) &&& 31).toUInt32).toInt32) &&& (7 : Int32)) - (4 : Int32))) (FP.i2d ((((x1.toUInt32 >>> ((9 : Int32) &&& 31).toUInt32).toInt32) &&& (7 : Int32)) - (4 : Int32))) (x0 &&& (3 : Int32)))), .second, .val (.double (own_pick (FP.i2d ((x1 &&& (7 : Int32)) - (4 : Int32))) (FP.i2d ((((x1.toUInt32 >>> ((3 : Int32) &&& 31).toUInt32).toInt32) &&& (7 : Int32)) - (4 : Int32))) (FP.i2d ((((x1.toUInt32 >>> ((6 : Int32) &&& 31).toUInt32).toInt32) &&& (7 : Int32)) - (4 : Int32))) (FP.i2d ((((x1.toUInt32 >>> ((9 : Int32) &&& 31).toUInt32).toInt32) &&& (7 : Int32)) - (4 : Int32))) (((x0.toUInt32 >>> ((2 : Int32) &&& 31).toUInt32).toInt32) &&& (3 : Int32)))), .second, .val (.double (own_pick (FP.i2d ((x1 &&& (7 : Int32)) - (4 : Int32))) (FP.i2d ((((x1.toUInt32 >>> ((3 : Int32) &&& 31).toUInt32).toInt32) &&& (7 : Int32)) - (4 : Int32))) (FP.i2d ((((x1.toUInt32 >>> ((6 : Int32) &&& 31).toUInt32).toInt32) &&& (7 : Int32)) - (4 : Int32))) (FP.i2d ((((x1.toUInt32 >>> ((9 : Int32) &&& 31).toUInt32).toInt32) &&& (7 : Int32)) - (4 : Int32))) (((x0.toUInt32 >>> ((4 : Int32) &&& 31).toUInt32).toInt32) &&& (3 : Int32)))), .second, .val (.int (((x0.toUInt32 >>> ((4 : Int32) &&& 31).toUInt32).toInt32) &&& (3 : Int32))), .unset] [(.ref b12), (.ref b8)])) rfl (by rw [hml]; rfl) (argsL := [(.ref b8), (.ref b12)]) (rest := []) (lenOf pd0 rfl) rfl (by show 2 * 0 + _ ≤ _; exact Nat.le_of_eq rfl) (hb hby at_146) (fun _ _ => ⟨rfl, e18, (by decide : 2 + 0 ≤ _), (by decide : 7 + 0 ≤ _)⟩)
        dsimp only [Pt.U, Pt.locs, Pt.cells, Pt.slots] at X28 l28 y28 z28 st28 hQ28
        subst l28 y28 z28
        obtain ⟨rfl, N28q, eq28⟩ := hQ28
        have N28 := Fr.app N18 N28q
        refine own_go st28 ?_
        show own_Got p e below _ T28 (mkF m 149 #[.val (.int x0), .val (.int x1), .val (.ref b8), .val (.ref b12), .val (.double (own_pick (FP.i2d ((x1 &&& (7 : Int32)) - (4 : Int32))) (FP.i2d ((((x1.toUInt32 >>> ((3 : Int32) &&& 31).toUInt32).toInt32) &&& (7 : Int32)) - (4 : Int32))) (FP.i2d ((((x1.toUInt32 >>> ((6 : Int32) &&& 31).toUInt32).toInt32) &&& (7 : Int32)) - (4 : Int32))) (FP.i2d ((((x1.toUInt32 >>> ((9 : Int32) &&& 31).toUInt32).toInt32) &&& (7 : Int32)) - (4 : Int32))) (x0 &&& (3 : Int32)))), .second, .val (.double (own_pick (FP.i2d ((x1 &&& (7 : Int32)) - (4 : Int32))) (FP.i2d ((((x1.toUInt32 >>> ((3 : Int32) &&& 31).toUInt32).toInt32) &&& (7 : Int32)) - (4 : Int32))) (FP.i2d ((((x1.toUInt32 >>> ((6 : Int32) &&& 31).toUInt32).toInt32) &&& (7 : Int32)) - (4 : Int32))) (FP.i2d ((((x1.toUInt32 >>> ((9 : Int32) &&& 31).toUInt32).toInt32) &&& (7 : Int32)) - (4 : Int32))) (((x0.toUInt32 >>> ((2 : Int32) &&& 31).toUInt32).toInt32) &&& (3 : Int32)))), .second, .val (.double (own_pick (FP.i2d ((x1 &&& (7 : Int32)) - (4 : Int32))) (FP.i2d ((((x1.toUInt32 >>> ((3 : Int32) &&& 31).toUInt32).toInt32) &&& (7 : Int32)) - (4 : Int32))) (FP.i2d ((((x1.toUInt32 >>> ((6 : Int32) &&& 31).toUInt32).toInt32) &&& (7 : Int32)) - (4 : Int32))) (FP.i2d ((((x1.toUInt32 >>> ((9 : Int32) &&& 31).toUInt32).toInt32) &&& (7 : Int32)) - (4 : Int32))) (((x0.toUInt32 >>> ((4 : Int32) &&& 31).toUInt32).toInt32) &&& (3 : Int32)))), .second, .val (.int (((x0.toUInt32 >>> ((4 : Int32) &&& 31).toUInt32).toInt32) &&& (3 : Int32))), .unset] [(.int (F_held (x0 &&& (3 : Int32)) (((x0.toUInt32 >>> ((2 : Int32) &&& 31).toUInt32).toInt32) &&& (3 : Int32)) (((x0.toUInt32 >>> ((4 : Int32) &&& 31).toUInt32).toInt32) &&& (3 : Int32)) (FP.i2d ((x1 &&& (7 : Int32)) - (4 : Int32))) (FP.i2d ((((x1.toUInt32 >>> ((3 : Int32) &&& 31).toUInt32).toInt32) &&& (7 : Int32)) - (4 : Int32))) (FP.i2d ((((x1.toUInt32 >>> ((6 : Int32) &&& 31).toUInt32).toInt32) &&& (7 : Int32)) - (4 : Int32))) (FP.i2d ((((x1.toUInt32 >>> ((9 : Int32) &&& 31).toUInt32).toInt32) &&& (7 : Int32)) - (4 : Int32)))))])
        refine g_istore X28 hx hby #[.val (.int x0), .val (.int x1), .val (.ref b8), .val (.ref b12), .val (.double (own_pick (FP.i2d ((x1 &&& (7 : Int32)) - (4 : Int32))) (FP.i2d ((((x1.toUInt32 >>> ((3 : Int32) &&& 31).toUInt32).toInt32) &&& (7 : Int32)) - (4 : Int32))) (FP.i2d ((((x1.toUInt32 >>> ((6 : Int32) &&& 31).toUInt32).toInt32) &&& (7 : Int32)) - (4 : Int32))) (FP.i2d ((((x1.toUInt32 >>> ((9 : Int32) &&& 31).toUInt32).toInt32) &&& (7 : Int32)) - (4 : Int32))) (x0 &&& (3 : Int32)))), .second, .val (.double (own_pick (FP.i2d ((x1 &&& (7 : Int32)) - (4 : Int32))) (FP.i2d ((((x1.toUInt32 >>> ((3 : Int32) &&& 31).toUInt32).toInt32) &&& (7 : Int32)) - (4 : Int32))) (FP.i2d ((((x1.toUInt32 >>> ((6 : Int32) &&& 31).toUInt32).toInt32) &&& (7 : Int32)) - (4 : Int32))) (FP.i2d ((((x1.toUInt32 >>> ((9 : Int32) &&& 31).toUInt32).toInt32) &&& (7 : Int32)) - (4 : Int32))) (((x0.toUInt32 >>> ((2 : Int32) &&& 31).toUInt32).toInt32) &&& (3 : Int32)))), .second, .val (.double (own_pick (FP.i2d ((x1 &&& (7 : Int32)) - (4 : Int32))) (FP.i2d ((((x1.toUInt32 >>> ((3 : Int32) &&& 31).toUInt32).toInt32) &&& (7 : Int32)) - (4 : Int32))) (FP.i2d ((((x1.toUInt32 >>> ((6 : Int32) &&& 31).toUInt32).toInt32) &&& (7 : Int32)) - (4 : Int32))) (FP.i2d ((((x1.toUInt32 >>> ((9 : Int32) &&& 31).toUInt32).toInt32) &&& (7 : Int32)) - (4 : Int32))) (((x0.toUInt32 >>> ((4 : Int32) &&& 31).toUInt32).toInt32) &&& (3 : Int32)))), .second, .val (.int (((x0.toUInt32 >>> ((4 : Int32) &&& 31).toUInt32).toInt32) &&& (3 : Int32))), .val (.int (F_held (x0 &&& (3 : Int32)) (((x0.toUInt32 >>> ((2 : Int32) &&& 31).toUInt32).toInt32) &&& (3 : Int32)) (((x0.toUInt32 >>> ((4 : Int32) &&& 31).toUInt32).toInt32) &&& (3 : Int32)) (FP.i2d ((x1 &&& (7 : Int32)) - (4 : Int32))) (FP.i2d ((((x1.toUInt32 >>> ((3 : Int32) &&& 31).toUInt32).toInt32) &&& (7 : Int32)) - (4 : Int32))) (FP.i2d ((((x1.toUInt32 >>> ((6 : Int32) &&& 31).toUInt32).toInt32) &&& (7 : Int32)) - (4 : Int32))) (FP.i2d ((((x1.toUInt32 >>> ((9 : Int32) &&& 31).toUInt32).toInt32) &&& (7 : Int32)) - (4 : Int32)))))] at_149 rfl (rfl : 149 + 2 = 151) ?_
        refine g_iload X28 hx hby at_151 rfl (rfl : 151 + 2 = 153) ?_
        refine g_iload X28 hx hby at_153 rfl (rfl : 153 + 2 = 155) ?_
        by_cases c29 : (F_held (x0 &&& (3 : Int32)) (((x0.toUInt32 >>> ((2 : Int32) &&& 31).toUInt32).toInt32) &&& (3 : Int32)) (((x0.toUInt32 >>> ((4 : Int32) &&& 31).toUInt32).toInt32) &&& (3 : Int32)) (FP.i2d ((x1 &&& (7 : Int32)) - (4 : Int32))) (FP.i2d ((((x1.toUInt32 >>> ((3 : Int32) &&& 31).toUInt32).toInt32) &&& (7 : Int32)) - (4 : Int32))) (FP.i2d ((((x1.toUInt32 >>> ((6 : Int32) &&& 31).toUInt32).toInt32) &&& (7 : Int32)) - (4 : Int32))) (FP.i2d ((((x1.toUInt32 >>> ((9 : Int32) &&& 31).toUInt32).toInt32) &&& (7 : Int32)) - (4 : Int32)))) = (((x0.toUInt32 >>> ((4 : Int32) &&& 31).toUInt32).toInt32) &&& (3 : Int32))
        · refine g_icF X28 hx hby at_155 (teq c29).2 (rfl : 155 + 3 = 158) ?_
          refine g_iconst X28 hx hby (1 : Int32) at_158 (by decide) (rfl : 158 + 1 = 159) ?_
          refine g_goto X28 hx hby at_159 (by decide) (pc' := 163) (by decide) ?_
          refine own_retN X28 hx hby hlk (t := .boolean) hrt (by simp) at_163 (by decide) (by decide) ?_
          show Q_law Z x0 x1 h0 n0 _ T28.heap _
          exact ⟨(congrArg (fun z => some (Value.int z)) (by rw [F_law, if_neg c20, if_pos c26, if_pos c27, if_pos c29] <;> rfl)), N28⟩
        · refine g_icT X28 hx hby at_155 (feq c29).2 (by decide) (pc' := 162) (by decide) ?_
          refine g_iconst X28 hx hby (0 : Int32) at_162 (by decide) (rfl : 162 + 1 = 163) ?_
          refine own_retN X28 hx hby hlk (t := .boolean) hrt (by simp) at_163 (by decide) (by decide) ?_
          show Q_law Z x0 x1 h0 n0 _ T28.heap _
          exact ⟨(congrArg (fun z => some (Value.int z)) (by rw [F_law, if_neg c20, if_pos c26, if_pos c27, if_neg c29] <;> rfl)), N28⟩
      · refine g_ifF X18 hx hby at_128 ((if0 _ _).trans (flt c27).1) (rfl : 128 + 3 = 131) ?_
        refine g_aloadN X18 hx hby at_131 rfl rfl (rfl : 131 + 1 = 132) ?_
        refine g_iconst X18 hx hby (1 : Int32) at_132 (by decide) (rfl : 132 + 1 = 133) ?_
        refine g_iaload X18 hx hby hZ e18 (v := (.int (((x0.toUInt32 >>> ((2 : Int32) &&& 31).toUInt32).toInt32) &&& (3 : Int32)))) f19 ⟨by decide, by decide⟩ rfl at_133 (rfl : 133 + 1 = 134) ?_
        refine g_istore X18 hx hby #[.val (.int x0), .val (.int x1), .val (.ref b8), .val (.ref b12), .val (.double (own_pick (FP.i2d ((x1 &&& (7 : Int32)) - (4 : Int32))) (FP.i2d ((((x1.toUInt32 >>> ((3 : Int32) &&& 31).toUInt32).toInt32) &&& (7 : Int32)) - (4 : Int32))) (FP.i2d ((((x1.toUInt32 >>> ((6 : Int32) &&& 31).toUInt32).toInt32) &&& (7 : Int32)) - (4 : Int32))) (FP.i2d ((((x1.toUInt32 >>> ((9 : Int32) &&& 31).toUInt32).toInt32) &&& (7 : Int32)) - (4 : Int32))) (x0 &&& (3 : Int32)))), .second, .val (.double (own_pick (FP.i2d ((x1 &&& (7 : Int32)) - (4 : Int32))) (FP.i2d ((((x1.toUInt32 >>> ((3 : Int32) &&& 31).toUInt32).toInt32) &&& (7 : Int32)) - (4 : Int32))) (FP.i2d ((((x1.toUInt32 >>> ((6 : Int32) &&& 31).toUInt32).toInt32) &&& (7 : Int32)) - (4 : Int32))) (FP.i2d ((((x1.toUInt32 >>> ((9 : Int32) &&& 31).toUInt32).toInt32) &&& (7 : Int32)) - (4 : Int32))) (((x0.toUInt32 >>> ((2 : Int32) &&& 31).toUInt32).toInt32) &&& (3 : Int32)))), .second, .val (.double (own_pick (FP.i2d ((x1 &&& (7 : Int32)) - (4 : Int32))) (FP.i2d ((((x1.toUInt32 >>> ((3 : Int32) &&& 31).toUInt32).toInt32) &&& (7 : Int32)) - (4 : Int32))) (FP.i2d ((((x1.toUInt32 >>> ((6 : Int32) &&& 31).toUInt32).toInt32) &&& (7 : Int32)) - (4 : Int32))) (FP.i2d ((((x1.toUInt32 >>> ((9 : Int32) &&& 31).toUInt32).toInt32) &&& (7 : Int32)) - (4 : Int32))) (((x0.toUInt32 >>> ((4 : Int32) &&& 31).toUInt32).toInt32) &&& (3 : Int32)))), .second, .val (.int (((x0.toUInt32 >>> ((2 : Int32) &&& 31).toUInt32).toInt32) &&& (3 : Int32))), .unset] at_134 rfl (rfl : 134 + 2 = 136) ?_
        refine g_goto X18 hx hby at_136 (by decide) (pc' := 144) (by decide) ?_
        refine g_aloadN X18 hx hby at_144 rfl rfl (rfl : 144 + 1 = 145) ?_
        refine g_aloadN X18 hx hby at_145 rfl rfl (rfl : 145 + 1 = 146) ?_
        obtain ⟨_, _, ⟨T30, L30, k30, n30⟩, -, X30, ⟨Lc30, hQ30, l30, y30, z30⟩, st30⟩ := Jvm.LawKit.callS X18 hx (y := (⟨"com/example/markov_lumper/markovlumper/solver/ErrorBound", "heldMember", "([I[D)I"⟩ : MethodName)) hown (mvT hZ (hw _ (List.mem_of_getElem? (i := 2) rfl))) (mvT hZ (hw _ (List.mem_of_getElem? (i := 3) rfl))) (mvT hZ (hw _ (List.mem_of_getElem? (i := 4) rfl))) (mvT hZ (hw _ (List.mem_of_getElem? (i := 5) rfl))) (by decide) (backOf (W := 0) (rm_held l Z aT hw [] b8 b12 k8 k12 (x0 &&& (3 : Int32)) (((x0.toUInt32 >>> ((2 : Int32) &&& 31).toUInt32).toInt32) &&& (3 : Int32)) (((x0.toUInt32 >>> ((4 : Int32) &&& 31).toUInt32).toInt32) &&& (3 : Int32)) (FP.i2d ((x1 &&& (7 : Int32)) - (4 : Int32))) (FP.i2d ((((x1.toUInt32 >>> ((3 : Int32) &&& 31).toUInt32).toInt32) &&& (7 : Int32)) - (4 : Int32))) (FP.i2d ((((x1.toUInt32 >>> ((6 : Int32) &&& 31).toUInt32).toInt32) &&& (7 : Int32)) - (4 : Int32))) (FP.i2d ((((x1.toUInt32 >>> ((9 : Int32) &&& 31).toUInt32).toInt32) &&& (7 : Int32)) - (4 : Int32))) h18 n0 Z18 f19 V18' (own_and3 _).1 (own_and3 _).2 (own_and3 _).1 (own_and3 _).2 (own_and3 _).1 (own_and3 _).2) hZ (hw _ (List.mem_of_getElem? (i := 5) rfl)) (hw _ (List.mem_of_getElem? (i := 4) rfl)) (by decide) (by decide)) (g := (mkF m 146 #[.val (.int x0), .val (.int x1), .val (.ref b8), .val (.ref b12), .val (.double (own_pick (FP.i2d ((x1 &&& (7 : Int32)) - (4 : Int32))) (FP.i2d ((((x1.toUInt32 >>> ((3 : Int32) &&& 31).toUInt32).toInt32) &&& (7 : Int32)) - (4 : Int32))) (FP.i2d ((((x1.toUInt32 >>> ((6 : Int32) &&& 31).toUInt32).toInt32) &&& (7 : Int32)) - (4 : Int32))) (FP.i2d ((((x1.toUInt32 >>> ((9 : Int32) &&& 31).toUInt32).toInt32) &&& (7 : Int32)) - (4 : Int32))) (x0 &&& (3 : Int32)))), .second, .val (.double (own_pick (FP.i2d ((x1 &&& (7 : Int32)) - (4 : Int32))) (FP.i2d ((((x1.toUInt32 >>> ((3 : Int32) &&& 31).toUInt32).toInt32) &&& (7 : Int32)) - (4 : Int32))) (FP.i2d ((((x1.toUInt32 >>> ((6 : Int32) &&& 31).toUInt32).toInt32) &&& (7 : Int32)) - (4 : Int32))) (FP.i2d ((((x1.toUInt32 >>> ((9 : Int32) &&& 31).toUInt32).toInt32) &&& (7 : Int32)) - (4 : Int32))) (((x0.toUInt32 >>> ((2 : Int32) &&& 31).toUInt32).toInt32) &&& (3 : Int32)))), .second, .val (.double (own_pick (FP.i2d ((x1 &&& (7 : Int32)) - (4 : Int32))) (FP.i2d ((((x1.toUInt32 >>> ((3 : Int32) &&& 31).toUInt32).toInt32) &&& (7 : Int32)) - (4 : Int32))) (FP.i2d ((((x1.toUInt32 >>> ((6 : Int32) &&& 31).toUInt32).toInt32) &&& (7 : Int32)) - (4 : Int32))) (FP.i2d ((((x1.toUInt32 >>> ((9 : Int32) &&& 31).toUInt32).toInt32) &&& (7 : Int32)) - (4 : Int32))) (((x0.toUInt32 >>> ((4 : Int32) &&& 31).toUInt32).toInt32) &&& (3 : Int32)))), .second, .val (.int (((x0.toUInt32 >>> ((2 : Int32) &&& 31).toUInt32).toInt32) &&& (3 : Int32))), .unset] [(.ref b12), (.ref b8)])) rfl (by rw [hml]; rfl) (argsL := [(.ref b8), (.ref b12)]) (rest := []) (lenOf pd0 rfl) rfl (by show 2 * 0 + _ ≤ _; exact Nat.le_of_eq rfl) (hb hby at_146) (fun _ _ => ⟨rfl, e18, (by decide : 2 + 0 ≤ _), (by decide : 7 + 0 ≤ _)⟩)
        dsimp only [Pt.U, Pt.locs, Pt.cells, Pt.slots] at X30 l30 y30 z30 st30 hQ30
        subst l30 y30 z30
        obtain ⟨rfl, N30q, eq30⟩ := hQ30
        have N30 := Fr.app N18 N30q
        refine own_go st30 ?_
        show own_Got p e below _ T30 (mkF m 149 #[.val (.int x0), .val (.int x1), .val (.ref b8), .val (.ref b12), .val (.double (own_pick (FP.i2d ((x1 &&& (7 : Int32)) - (4 : Int32))) (FP.i2d ((((x1.toUInt32 >>> ((3 : Int32) &&& 31).toUInt32).toInt32) &&& (7 : Int32)) - (4 : Int32))) (FP.i2d ((((x1.toUInt32 >>> ((6 : Int32) &&& 31).toUInt32).toInt32) &&& (7 : Int32)) - (4 : Int32))) (FP.i2d ((((x1.toUInt32 >>> ((9 : Int32) &&& 31).toUInt32).toInt32) &&& (7 : Int32)) - (4 : Int32))) (x0 &&& (3 : Int32)))), .second, .val (.double (own_pick (FP.i2d ((x1 &&& (7 : Int32)) - (4 : Int32))) (FP.i2d ((((x1.toUInt32 >>> ((3 : Int32) &&& 31).toUInt32).toInt32) &&& (7 : Int32)) - (4 : Int32))) (FP.i2d ((((x1.toUInt32 >>> ((6 : Int32) &&& 31).toUInt32).toInt32) &&& (7 : Int32)) - (4 : Int32))) (FP.i2d ((((x1.toUInt32 >>> ((9 : Int32) &&& 31).toUInt32).toInt32) &&& (7 : Int32)) - (4 : Int32))) (((x0.toUInt32 >>> ((2 : Int32) &&& 31).toUInt32).toInt32) &&& (3 : Int32)))), .second, .val (.double (own_pick (FP.i2d ((x1 &&& (7 : Int32)) - (4 : Int32))) (FP.i2d ((((x1.toUInt32 >>> ((3 : Int32) &&& 31).toUInt32).toInt32) &&& (7 : Int32)) - (4 : Int32))) (FP.i2d ((((x1.toUInt32 >>> ((6 : Int32) &&& 31).toUInt32).toInt32) &&& (7 : Int32)) - (4 : Int32))) (FP.i2d ((((x1.toUInt32 >>> ((9 : Int32) &&& 31).toUInt32).toInt32) &&& (7 : Int32)) - (4 : Int32))) (((x0.toUInt32 >>> ((4 : Int32) &&& 31).toUInt32).toInt32) &&& (3 : Int32)))), .second, .val (.int (((x0.toUInt32 >>> ((2 : Int32) &&& 31).toUInt32).toInt32) &&& (3 : Int32))), .unset] [(.int (F_held (x0 &&& (3 : Int32)) (((x0.toUInt32 >>> ((2 : Int32) &&& 31).toUInt32).toInt32) &&& (3 : Int32)) (((x0.toUInt32 >>> ((4 : Int32) &&& 31).toUInt32).toInt32) &&& (3 : Int32)) (FP.i2d ((x1 &&& (7 : Int32)) - (4 : Int32))) (FP.i2d ((((x1.toUInt32 >>> ((3 : Int32) &&& 31).toUInt32).toInt32) &&& (7 : Int32)) - (4 : Int32))) (FP.i2d ((((x1.toUInt32 >>> ((6 : Int32) &&& 31).toUInt32).toInt32) &&& (7 : Int32)) - (4 : Int32))) (FP.i2d ((((x1.toUInt32 >>> ((9 : Int32) &&& 31).toUInt32).toInt32) &&& (7 : Int32)) - (4 : Int32)))))])
        refine g_istore X30 hx hby #[.val (.int x0), .val (.int x1), .val (.ref b8), .val (.ref b12), .val (.double (own_pick (FP.i2d ((x1 &&& (7 : Int32)) - (4 : Int32))) (FP.i2d ((((x1.toUInt32 >>> ((3 : Int32) &&& 31).toUInt32).toInt32) &&& (7 : Int32)) - (4 : Int32))) (FP.i2d ((((x1.toUInt32 >>> ((6 : Int32) &&& 31).toUInt32).toInt32) &&& (7 : Int32)) - (4 : Int32))) (FP.i2d ((((x1.toUInt32 >>> ((9 : Int32) &&& 31).toUInt32).toInt32) &&& (7 : Int32)) - (4 : Int32))) (x0 &&& (3 : Int32)))), .second, .val (.double (own_pick (FP.i2d ((x1 &&& (7 : Int32)) - (4 : Int32))) (FP.i2d ((((x1.toUInt32 >>> ((3 : Int32) &&& 31).toUInt32).toInt32) &&& (7 : Int32)) - (4 : Int32))) (FP.i2d ((((x1.toUInt32 >>> ((6 : Int32) &&& 31).toUInt32).toInt32) &&& (7 : Int32)) - (4 : Int32))) (FP.i2d ((((x1.toUInt32 >>> ((9 : Int32) &&& 31).toUInt32).toInt32) &&& (7 : Int32)) - (4 : Int32))) (((x0.toUInt32 >>> ((2 : Int32) &&& 31).toUInt32).toInt32) &&& (3 : Int32)))), .second, .val (.double (own_pick (FP.i2d ((x1 &&& (7 : Int32)) - (4 : Int32))) (FP.i2d ((((x1.toUInt32 >>> ((3 : Int32) &&& 31).toUInt32).toInt32) &&& (7 : Int32)) - (4 : Int32))) (FP.i2d ((((x1.toUInt32 >>> ((6 : Int32) &&& 31).toUInt32).toInt32) &&& (7 : Int32)) - (4 : Int32))) (FP.i2d ((((x1.toUInt32 >>> ((9 : Int32) &&& 31).toUInt32).toInt32) &&& (7 : Int32)) - (4 : Int32))) (((x0.toUInt32 >>> ((4 : Int32) &&& 31).toUInt32).toInt32) &&& (3 : Int32)))), .second, .val (.int (((x0.toUInt32 >>> ((2 : Int32) &&& 31).toUInt32).toInt32) &&& (3 : Int32))), .val (.int (F_held (x0 &&& (3 : Int32)) (((x0.toUInt32 >>> ((2 : Int32) &&& 31).toUInt32).toInt32) &&& (3 : Int32)) (((x0.toUInt32 >>> ((4 : Int32) &&& 31).toUInt32).toInt32) &&& (3 : Int32)) (FP.i2d ((x1 &&& (7 : Int32)) - (4 : Int32))) (FP.i2d ((((x1.toUInt32 >>> ((3 : Int32) &&& 31).toUInt32).toInt32) &&& (7 : Int32)) - (4 : Int32))) (FP.i2d ((((x1.toUInt32 >>> ((6 : Int32) &&& 31).toUInt32).toInt32) &&& (7 : Int32)) - (4 : Int32))) (FP.i2d ((((x1.toUInt32 >>> ((9 : Int32) &&& 31).toUInt32).toInt32) &&& (7 : Int32)) - (4 : Int32)))))] at_149 rfl (rfl : 149 + 2 = 151) ?_
        refine g_iload X30 hx hby at_151 rfl (rfl : 151 + 2 = 153) ?_
        refine g_iload X30 hx hby at_153 rfl (rfl : 153 + 2 = 155) ?_
        by_cases c31 : (F_held (x0 &&& (3 : Int32)) (((x0.toUInt32 >>> ((2 : Int32) &&& 31).toUInt32).toInt32) &&& (3 : Int32)) (((x0.toUInt32 >>> ((4 : Int32) &&& 31).toUInt32).toInt32) &&& (3 : Int32)) (FP.i2d ((x1 &&& (7 : Int32)) - (4 : Int32))) (FP.i2d ((((x1.toUInt32 >>> ((3 : Int32) &&& 31).toUInt32).toInt32) &&& (7 : Int32)) - (4 : Int32))) (FP.i2d ((((x1.toUInt32 >>> ((6 : Int32) &&& 31).toUInt32).toInt32) &&& (7 : Int32)) - (4 : Int32))) (FP.i2d ((((x1.toUInt32 >>> ((9 : Int32) &&& 31).toUInt32).toInt32) &&& (7 : Int32)) - (4 : Int32)))) = (((x0.toUInt32 >>> ((2 : Int32) &&& 31).toUInt32).toInt32) &&& (3 : Int32))
        · refine g_icF X30 hx hby at_155 (teq c31).2 (rfl : 155 + 3 = 158) ?_
          refine g_iconst X30 hx hby (1 : Int32) at_158 (by decide) (rfl : 158 + 1 = 159) ?_
          refine g_goto X30 hx hby at_159 (by decide) (pc' := 163) (by decide) ?_
          refine own_retN X30 hx hby hlk (t := .boolean) hrt (by simp) at_163 (by decide) (by decide) ?_
          show Q_law Z x0 x1 h0 n0 _ T30.heap _
          exact ⟨(congrArg (fun z => some (Value.int z)) (by rw [F_law, if_neg c20, if_pos c26, if_neg c27, if_pos c31] <;> rfl)), N30⟩
        · refine g_icT X30 hx hby at_155 (feq c31).2 (by decide) (pc' := 162) (by decide) ?_
          refine g_iconst X30 hx hby (0 : Int32) at_162 (by decide) (rfl : 162 + 1 = 163) ?_
          refine own_retN X30 hx hby hlk (t := .boolean) hrt (by simp) at_163 (by decide) (by decide) ?_
          show Q_law Z x0 x1 h0 n0 _ T30.heap _
          exact ⟨(congrArg (fun z => some (Value.int z)) (by rw [F_law, if_neg c20, if_pos c26, if_neg c27, if_neg c31] <;> rfl)), N30⟩
    · refine g_ifF X18 hx hby at_112 ((if0 _ _).trans (flt c26).1) (rfl : 112 + 3 = 115) ?_
      refine g_aloadN X18 hx hby at_115 rfl rfl (rfl : 115 + 1 = 116) ?_
      refine g_iconst X18 hx hby (0 : Int32) at_116 (by decide) (rfl : 116 + 1 = 117) ?_
      refine g_iaload X18 hx hby hZ e18 (v := (.int (x0 &&& (3 : Int32)))) f19 ⟨by decide, by decide⟩ rfl at_117 (rfl : 117 + 1 = 118) ?_
      refine g_istore X18 hx hby #[.val (.int x0), .val (.int x1), .val (.ref b8), .val (.ref b12), .val (.double (own_pick (FP.i2d ((x1 &&& (7 : Int32)) - (4 : Int32))) (FP.i2d ((((x1.toUInt32 >>> ((3 : Int32) &&& 31).toUInt32).toInt32) &&& (7 : Int32)) - (4 : Int32))) (FP.i2d ((((x1.toUInt32 >>> ((6 : Int32) &&& 31).toUInt32).toInt32) &&& (7 : Int32)) - (4 : Int32))) (FP.i2d ((((x1.toUInt32 >>> ((9 : Int32) &&& 31).toUInt32).toInt32) &&& (7 : Int32)) - (4 : Int32))) (x0 &&& (3 : Int32)))), .second, .val (.double (own_pick (FP.i2d ((x1 &&& (7 : Int32)) - (4 : Int32))) (FP.i2d ((((x1.toUInt32 >>> ((3 : Int32) &&& 31).toUInt32).toInt32) &&& (7 : Int32)) - (4 : Int32))) (FP.i2d ((((x1.toUInt32 >>> ((6 : Int32) &&& 31).toUInt32).toInt32) &&& (7 : Int32)) - (4 : Int32))) (FP.i2d ((((x1.toUInt32 >>> ((9 : Int32) &&& 31).toUInt32).toInt32) &&& (7 : Int32)) - (4 : Int32))) (((x0.toUInt32 >>> ((2 : Int32) &&& 31).toUInt32).toInt32) &&& (3 : Int32)))), .second, .val (.double (own_pick (FP.i2d ((x1 &&& (7 : Int32)) - (4 : Int32))) (FP.i2d ((((x1.toUInt32 >>> ((3 : Int32) &&& 31).toUInt32).toInt32) &&& (7 : Int32)) - (4 : Int32))) (FP.i2d ((((x1.toUInt32 >>> ((6 : Int32) &&& 31).toUInt32).toInt32) &&& (7 : Int32)) - (4 : Int32))) (FP.i2d ((((x1.toUInt32 >>> ((9 : Int32) &&& 31).toUInt32).toInt32) &&& (7 : Int32)) - (4 : Int32))) (((x0.toUInt32 >>> ((4 : Int32) &&& 31).toUInt32).toInt32) &&& (3 : Int32)))), .second, .val (.int (x0 &&& (3 : Int32))), .unset] at_118 rfl (rfl : 118 + 2 = 120) ?_
      refine g_goto X18 hx hby at_120 (by decide) (pc' := 144) (by decide) ?_
      refine g_aloadN X18 hx hby at_144 rfl rfl (rfl : 144 + 1 = 145) ?_
      refine g_aloadN X18 hx hby at_145 rfl rfl (rfl : 145 + 1 = 146) ?_
      obtain ⟨_, _, ⟨T32, L32, k32, n32⟩, -, X32, ⟨Lc32, hQ32, l32, y32, z32⟩, st32⟩ := Jvm.LawKit.callS X18 hx (y := (⟨"com/example/markov_lumper/markovlumper/solver/ErrorBound", "heldMember", "([I[D)I"⟩ : MethodName)) hown (mvT hZ (hw _ (List.mem_of_getElem? (i := 2) rfl))) (mvT hZ (hw _ (List.mem_of_getElem? (i := 3) rfl))) (mvT hZ (hw _ (List.mem_of_getElem? (i := 4) rfl))) (mvT hZ (hw _ (List.mem_of_getElem? (i := 5) rfl))) (by decide) (backOf (W := 0) (rm_held l Z aT hw [] b8 b12 k8 k12 (x0 &&& (3 : Int32)) (((x0.toUInt32 >>> ((2 : Int32) &&& 31).toUInt32).toInt32) &&& (3 : Int32)) (((x0.toUInt32 >>> ((4 : Int32) &&& 31).toUInt32).toInt32) &&& (3 : Int32)) (FP.i2d ((x1 &&& (7 : Int32)) - (4 : Int32))) (FP.i2d ((((x1.toUInt32 >>> ((3 : Int32) &&& 31).toUInt32).toInt32) &&& (7 : Int32)) - (4 : Int32))) (FP.i2d ((((x1.toUInt32 >>> ((6 : Int32) &&& 31).toUInt32).toInt32) &&& (7 : Int32)) - (4 : Int32))) (FP.i2d ((((x1.toUInt32 >>> ((9 : Int32) &&& 31).toUInt32).toInt32) &&& (7 : Int32)) - (4 : Int32))) h18 n0 Z18 f19 V18' (own_and3 _).1 (own_and3 _).2 (own_and3 _).1 (own_and3 _).2 (own_and3 _).1 (own_and3 _).2) hZ (hw _ (List.mem_of_getElem? (i := 5) rfl)) (hw _ (List.mem_of_getElem? (i := 4) rfl)) (by decide) (by decide)) (g := (mkF m 146 #[.val (.int x0), .val (.int x1), .val (.ref b8), .val (.ref b12), .val (.double (own_pick (FP.i2d ((x1 &&& (7 : Int32)) - (4 : Int32))) (FP.i2d ((((x1.toUInt32 >>> ((3 : Int32) &&& 31).toUInt32).toInt32) &&& (7 : Int32)) - (4 : Int32))) (FP.i2d ((((x1.toUInt32 >>> ((6 : Int32) &&& 31).toUInt32).toInt32) &&& (7 : Int32)) - (4 : Int32))) (FP.i2d ((((x1.toUInt32 >>> ((9 : Int32) &&& 31).toUInt32).toInt32) &&& (7 : Int32)) - (4 : Int32))) (x0 &&& (3 : Int32)))), .second, .val (.double (own_pick (FP.i2d ((x1 &&& (7 : Int32)) - (4 : Int32))) (FP.i2d ((((x1.toUInt32 >>> ((3 : Int32) &&& 31).toUInt32).toInt32) &&& (7 : Int32)) - (4 : Int32))) (FP.i2d ((((x1.toUInt32 >>> ((6 : Int32) &&& 31).toUInt32).toInt32) &&& (7 : Int32)) - (4 : Int32))) (FP.i2d ((((x1.toUInt32 >>> ((9 : Int32) &&& 31).toUInt32).toInt32) &&& (7 : Int32)) - (4 : Int32))) (((x0.toUInt32 >>> ((2 : Int32) &&& 31).toUInt32).toInt32) &&& (3 : Int32)))), .second, .val (.double (own_pick (FP.i2d ((x1 &&& (7 : Int32)) - (4 : Int32))) (FP.i2d ((((x1.toUInt32 >>> ((3 : Int32) &&& 31).toUInt32).toInt32) &&& (7 : Int32)) - (4 : Int32))) (FP.i2d ((((x1.toUInt32 >>> ((6 : Int32) &&& 31).toUInt32).toInt32) &&& (7 : Int32)) - (4 : Int32))) (FP.i2d ((((x1.toUInt32 >>> ((9 : Int32) &&& 31).toUInt32).toInt32) &&& (7 : Int32)) - (4 : Int32))) (((x0.toUInt32 >>> ((4 : Int32) &&& 31).toUInt32).toInt32) &&& (3 : Int32)))), .second, .val (.int (x0 &&& (3 : Int32))), .unset] [(.ref b12), (.ref b8)])) rfl (by rw [hml]; rfl) (argsL := [(.ref b8), (.ref b12)]) (rest := []) (lenOf pd0 rfl) rfl (by show 2 * 0 + _ ≤ _; exact Nat.le_of_eq rfl) (hb hby at_146) (fun _ _ => ⟨rfl, e18, (by decide : 2 + 0 ≤ _), (by decide : 7 + 0 ≤ _)⟩)
      dsimp only [Pt.U, Pt.locs, Pt.cells, Pt.slots] at X32 l32 y32 z32 st32 hQ32
      subst l32 y32 z32
      obtain ⟨rfl, N32q, eq32⟩ := hQ32
      have N32 := Fr.app N18 N32q
      refine own_go st32 ?_
      show own_Got p e below _ T32 (mkF m 149 #[.val (.int x0), .val (.int x1), .val (.ref b8), .val (.ref b12), .val (.double (own_pick (FP.i2d ((x1 &&& (7 : Int32)) - (4 : Int32))) (FP.i2d ((((x1.toUInt32 >>> ((3 : Int32) &&& 31).toUInt32).toInt32) &&& (7 : Int32)) - (4 : Int32))) (FP.i2d ((((x1.toUInt32 >>> ((6 : Int32) &&& 31).toUInt32).toInt32) &&& (7 : Int32)) - (4 : Int32))) (FP.i2d ((((x1.toUInt32 >>> ((9 : Int32) &&& 31).toUInt32).toInt32) &&& (7 : Int32)) - (4 : Int32))) (x0 &&& (3 : Int32)))), .second, .val (.double (own_pick (FP.i2d ((x1 &&& (7 : Int32)) - (4 : Int32))) (FP.i2d ((((x1.toUInt32 >>> ((3 : Int32) &&& 31).toUInt32).toInt32) &&& (7 : Int32)) - (4 : Int32))) (FP.i2d ((((x1.toUInt32 >>> ((6 : Int32) &&& 31).toUInt32).toInt32) &&& (7 : Int32)) - (4 : Int32))) (FP.i2d ((((x1.toUInt32 >>> ((9 : Int32) &&& 31).toUInt32).toInt32) &&& (7 : Int32)) - (4 : Int32))) (((x0.toUInt32 >>> ((2 : Int32) &&& 31).toUInt32).toInt32) &&& (3 : Int32)))), .second, .val (.double (own_pick (FP.i2d ((x1 &&& (7 : Int32)) - (4 : Int32))) (FP.i2d ((((x1.toUInt32 >>> ((3 : Int32) &&& 31).toUInt32).toInt32) &&& (7 : Int32)) - (4 : Int32))) (FP.i2d ((((x1.toUInt32 >>> ((6 : Int32) &&& 31).toUInt32).toInt32) &&& (7 : Int32)) - (4 : Int32))) (FP.i2d ((((x1.toUInt32 >>> ((9 : Int32) &&& 31).toUInt32).toInt32) &&& (7 : Int32)) - (4 : Int32))) (((x0.toUInt32 >>> ((4 : Int32) &&& 31).toUInt32).toInt32) &&& (3 : Int32)))), .second, .val (.int (x0 &&& (3 : Int32))), .unset] [(.int (F_held (x0 &&& (3 : Int32)) (((x0.toUInt32 >>> ((2 : Int32) &&& 31).toUInt32).toInt32) &&& (3 : Int32)) (((x0.toUInt32 >>> ((4 : Int32) &&& 31).toUInt32).toInt32) &&& (3 : Int32)) (FP.i2d ((x1 &&& (7 : Int32)) - (4 : Int32))) (FP.i2d ((((x1.toUInt32 >>> ((3 : Int32) &&& 31).toUInt32).toInt32) &&& (7 : Int32)) - (4 : Int32))) (FP.i2d ((((x1.toUInt32 >>> ((6 : Int32) &&& 31).toUInt32).toInt32) &&& (7 : Int32)) - (4 : Int32))) (FP.i2d ((((x1.toUInt32 >>> ((9 : Int32) &&& 31).toUInt32).toInt32) &&& (7 : Int32)) - (4 : Int32)))))])
      refine g_istore X32 hx hby #[.val (.int x0), .val (.int x1), .val (.ref b8), .val (.ref b12), .val (.double (own_pick (FP.i2d ((x1 &&& (7 : Int32)) - (4 : Int32))) (FP.i2d ((((x1.toUInt32 >>> ((3 : Int32) &&& 31).toUInt32).toInt32) &&& (7 : Int32)) - (4 : Int32))) (FP.i2d ((((x1.toUInt32 >>> ((6 : Int32) &&& 31).toUInt32).toInt32) &&& (7 : Int32)) - (4 : Int32))) (FP.i2d ((((x1.toUInt32 >>> ((9 : Int32) &&& 31).toUInt32).toInt32) &&& (7 : Int32)) - (4 : Int32))) (x0 &&& (3 : Int32)))), .second, .val (.double (own_pick (FP.i2d ((x1 &&& (7 : Int32)) - (4 : Int32))) (FP.i2d ((((x1.toUInt32 >>> ((3 : Int32) &&& 31).toUInt32).toInt32) &&& (7 : Int32)) - (4 : Int32))) (FP.i2d ((((x1.toUInt32 >>> ((6 : Int32) &&& 31).toUInt32).toInt32) &&& (7 : Int32)) - (4 : Int32))) (FP.i2d ((((x1.toUInt32 >>> ((9 : Int32) &&& 31).toUInt32).toInt32) &&& (7 : Int32)) - (4 : Int32))) (((x0.toUInt32 >>> ((2 : Int32) &&& 31).toUInt32).toInt32) &&& (3 : Int32)))), .second, .val (.double (own_pick (FP.i2d ((x1 &&& (7 : Int32)) - (4 : Int32))) (FP.i2d ((((x1.toUInt32 >>> ((3 : Int32) &&& 31).toUInt32).toInt32) &&& (7 : Int32)) - (4 : Int32))) (FP.i2d ((((x1.toUInt32 >>> ((6 : Int32) &&& 31).toUInt32).toInt32) &&& (7 : Int32)) - (4 : Int32))) (FP.i2d ((((x1.toUInt32 >>> ((9 : Int32) &&& 31).toUInt32).toInt32) &&& (7 : Int32)) - (4 : Int32))) (((x0.toUInt32 >>> ((4 : Int32) &&& 31).toUInt32).toInt32) &&& (3 : Int32)))), .second, .val (.int (x0 &&& (3 : Int32))), .val (.int (F_held (x0 &&& (3 : Int32)) (((x0.toUInt32 >>> ((2 : Int32) &&& 31).toUInt32).toInt32) &&& (3 : Int32)) (((x0.toUInt32 >>> ((4 : Int32) &&& 31).toUInt32).toInt32) &&& (3 : Int32)) (FP.i2d ((x1 &&& (7 : Int32)) - (4 : Int32))) (FP.i2d ((((x1.toUInt32 >>> ((3 : Int32) &&& 31).toUInt32).toInt32) &&& (7 : Int32)) - (4 : Int32))) (FP.i2d ((((x1.toUInt32 >>> ((6 : Int32) &&& 31).toUInt32).toInt32) &&& (7 : Int32)) - (4 : Int32))) (FP.i2d ((((x1.toUInt32 >>> ((9 : Int32) &&& 31).toUInt32).toInt32) &&& (7 : Int32)) - (4 : Int32)))))] at_149 rfl (rfl : 149 + 2 = 151) ?_
      refine g_iload X32 hx hby at_151 rfl (rfl : 151 + 2 = 153) ?_
      refine g_iload X32 hx hby at_153 rfl (rfl : 153 + 2 = 155) ?_
      by_cases c33 : (F_held (x0 &&& (3 : Int32)) (((x0.toUInt32 >>> ((2 : Int32) &&& 31).toUInt32).toInt32) &&& (3 : Int32)) (((x0.toUInt32 >>> ((4 : Int32) &&& 31).toUInt32).toInt32) &&& (3 : Int32)) (FP.i2d ((x1 &&& (7 : Int32)) - (4 : Int32))) (FP.i2d ((((x1.toUInt32 >>> ((3 : Int32) &&& 31).toUInt32).toInt32) &&& (7 : Int32)) - (4 : Int32))) (FP.i2d ((((x1.toUInt32 >>> ((6 : Int32) &&& 31).toUInt32).toInt32) &&& (7 : Int32)) - (4 : Int32))) (FP.i2d ((((x1.toUInt32 >>> ((9 : Int32) &&& 31).toUInt32).toInt32) &&& (7 : Int32)) - (4 : Int32)))) = (x0 &&& (3 : Int32))
      · refine g_icF X32 hx hby at_155 (teq c33).2 (rfl : 155 + 3 = 158) ?_
        refine g_iconst X32 hx hby (1 : Int32) at_158 (by decide) (rfl : 158 + 1 = 159) ?_
        refine g_goto X32 hx hby at_159 (by decide) (pc' := 163) (by decide) ?_
        refine own_retN X32 hx hby hlk (t := .boolean) hrt (by simp) at_163 (by decide) (by decide) ?_
        show Q_law Z x0 x1 h0 n0 _ T32.heap _
        exact ⟨(congrArg (fun z => some (Value.int z)) (by rw [F_law, if_neg c20, if_neg c26, if_pos c33] <;> rfl)), N32⟩
      · refine g_icT X32 hx hby at_155 (feq c33).2 (by decide) (pc' := 162) (by decide) ?_
        refine g_iconst X32 hx hby (0 : Int32) at_162 (by decide) (rfl : 162 + 1 = 163) ?_
        refine own_retN X32 hx hby hlk (t := .boolean) hrt (by simp) at_163 (by decide) (by decide) ?_
        show Q_law Z x0 x1 h0 n0 _ T32.heap _
        exact ⟨(congrArg (fun z => some (Value.int z)) (by rw [F_law, if_neg c20, if_neg c26, if_neg c33] <;> rfl)), N32⟩
def own_pickI (z0 z1 z2 z3 : Int32) (j : Int32) : Int32 := if j = 0 then z0 else if j = 1 then z1 else if j = 2 then z2 else z3
theorem own_pick_i2d (z0 z1 z2 z3 j : Int32) : own_pick (FP.i2d z0) (FP.i2d z1) (FP.i2d z2) (FP.i2d z3) j = FP.i2d (own_pickI z0 z1 z2 z3 j) := by
  unfold own_pick own_pickI
  repeat' split
  all_goals rfl
def own_small (z : Int32) : Prop := -4 ≤ z.toInt ∧ z.toInt ≤ 3
theorem own_small_of (x : Int32) : own_small ((x &&& (7 : Int32)) - (4 : Int32)) := by
  have h := c_and x 7 (by decide)
  have e7 : (7 : Int32).toInt = 7 := by decide
  have e4 : (4 : Int32).toInt = 4 := by decide
  have := c_isub (x &&& 7) 4
  have := rng32 ((x &&& 7) - 4)
  unfold own_small
  omega
theorem own_small_pick {z0 z1 z2 z3 : Int32} (j : Int32) (h0 : own_small z0) (h1 : own_small z1) (h2 : own_small z2) (h3 : own_small z3) : own_small (own_pickI z0 z1 z2 z3 j) := by
  unfold own_pickI
  repeat' split
  all_goals assumption
theorem own_b53 {z : Int32} (h : own_small z) : B53 z.toInt64 := by
  unfold own_small at h
  refine b53 ?_ ?_ <;> rw [Int64.lt_iff_toInt_lt, Int32.toInt_toInt64]
  · have : (-9007199254740992 : Int64).toInt = -9007199254740992 := by decide
    omega
  · have : (9007199254740992 : Int64).toInt = 9007199254740992 := by decide
    omega
theorem own_cmp {x y : Int32} (hx : own_small x) (hy : own_small y) : (cmpValue (FP.dcmp (FP.i2d x) (FP.i2d y)) .l < (0 : Int32) ↔ x.toInt < y.toInt) ∧ ((0 : Int32) < cmpValue (FP.dcmp (FP.i2d x) (FP.i2d y)) .l ↔ y.toInt < x.toInt) := by
  rw [i2d_w, i2d_w, dcmpV_w (own_b53 hx) (own_b53 hy), lw_lt, lw_gt, Int64.lt_iff_toInt_lt, Int64.lt_iff_toInt_lt, Int32.toInt_toInt64, Int32.toInt_toInt64]
  exact ⟨Iff.rfl, Iff.rfl⟩
theorem own_plain (a b : Int32) : F_law a b = 1 := by
  unfold F_law F_held
  simp only [own_pick_i2d]
  have s0 := own_small_of b
  have s1 := own_small_of ((b.toUInt32 >>> ((3 : Int32) &&& 31).toUInt32).toInt32)
  have s2 := own_small_of ((b.toUInt32 >>> ((6 : Int32) &&& 31).toUInt32).toInt32)
  have s3 := own_small_of ((b.toUInt32 >>> ((9 : Int32) &&& 31).toUInt32).toInt32)
  generalize (b &&& (7 : Int32)) - (4 : Int32) = z0 at *
  generalize ((b.toUInt32 >>> ((3 : Int32) &&& 31).toUInt32).toInt32 &&& (7 : Int32)) - (4 : Int32) = z1 at *
  generalize ((b.toUInt32 >>> ((6 : Int32) &&& 31).toUInt32).toInt32 &&& (7 : Int32)) - (4 : Int32) = z2 at *
  generalize ((b.toUInt32 >>> ((9 : Int32) &&& 31).toUInt32).toInt32 &&& (7 : Int32)) - (4 : Int32) = z3 at *
  generalize a &&& (3 : Int32) = m0
  generalize (a.toUInt32 >>> ((2 : Int32) &&& 31).toUInt32).toInt32 &&& (3 : Int32) = m1
  generalize (a.toUInt32 >>> ((4 : Int32) &&& 31).toUInt32).toInt32 &&& (3 : Int32) = m2
  have t0 := own_small_pick m0 s0 s1 s2 s3
  have t1 := own_small_pick m1 s0 s1 s2 s3
  have t2 := own_small_pick m2 s0 s1 s2 s3
  generalize own_pickI z0 z1 z2 z3 m0 = v0 at *
  generalize own_pickI z0 z1 z2 z3 m1 = v1 at *
  generalize own_pickI z0 z1 z2 z3 m2 = v2 at *
  simp only [(own_cmp t0 t0).2, (own_cmp t0 t1).1, (own_cmp t0 t2).1, (own_cmp t1 t2).1, (own_cmp t1 t0).2, (own_cmp t2 t0).2, (own_cmp t2 t1).2]
  repeat' split
  all_goals first | rfl | (exfalso; omega) | (exfalso; simp_all; done) | (exfalso; simp_all; omega)

set_option maxRecDepth 65536 in
set_option maxHeartbeats 40000000 in
theorem comes_1 {Post : Tables → Env → Array Value → State → Outcome → State → Prop} (hpost : ∀ tb e args s v u, (limb_1_1.after args s (.returned v) u = true ∧ limb_1_2.after args s (.returned v) u = true ∧ True) → FrameEnd s (.returned v) u (Jvm.fieldLocs frame_1_writes args s ++ Jvm.arrayLocs frame_1_arrays args s ++ Jvm.staticLocs frame_1_statics s) 16 128 → Post tb e args s (.returned v) u) :
    ArmFor flags0 classFile x code maxLocals ret World_1 tables_1 room_1 Calls_1 rest_1 Pre_1 Post := by
  intro l hfl _ _ p e ha hc hk s m args below hf hA hF happ hP
  obtain ⟨hcalls, hrest, hpre⟩ := hP
  obtain ⟨-, -, -, hnamed, -, -, -, hat⟩ := (Spec.applies_iff hf).mp happ
  obtain ⟨hg, hn⟩ := and_e (Cond.before_iff.mp (show (Jvm.Cond.and given_1 narrow_1).before args s = true from hpre))
  obtain ⟨hcnt, hg0⟩ := and_e hg
  obtain ⟨ha0, hg1⟩ := and_e hg0
  obtain ⟨w0, w1, rfl⟩ : ∃ w0 w1 : Value, args = #[w0, w1] := by
    have hs : args.size = 2 := by simpa [Cond.value, given_1] using hcnt
    obtain ⟨L⟩ := args
    match L, hs with
    | [w0, w1], _ => exact ⟨w0, w1, rfl⟩
  have hw := fun d (hd : d ∈ tables_1) => atoms_spec (ws := Jvm.Cond.code x code maxLocals ret :: tables_1) hat d (List.mem_cons_of_mem _ hd)
  have hfit : Fit s := fun {y c} hc i hi => by
    obtain ⟨ha, rfl⟩ := Array.getElem?_eq_some_iff.mp hc
    have q := List.all_eq_true.mp ((Array.all_eq_true_iff_forall_mem.mp hF) _ (Array.getElem_mem ha)) i (List.mem_range.mpr hi)
    simpa [Array.getElem?_eq_getElem hi] using q
  obtain ⟨i0, ei0⟩ := is_v ha0
  obtain rfl : w0 = (.int i0) := Option.some.inj ei0
  obtain ⟨i1, ei1⟩ := is_v hg1
  obtain rfl : w1 = (.int i1) := Option.some.inj ei1
  obtain ⟨n, o, h1, h2, h3, _, L, rfl, ⟨hv, N⟩, hq⟩ := rm_law l s _ hw tables_1 i0 i1 s.heap s.heap.size (Nat.le_refl _)  p e ha hc hk s m _ below hf ((Spec.applies_iff_loose hf).mp happ).1 ⟨rfl, State.Warmed39.refl s, rfl⟩ trivial
  rw [own_plain] at hv
  subst hv
  refine ⟨n, _, h1, h2, h3, hpost _ _ _ _ _ _ ⟨Cond.after_iff.mpr rfl, Cond.after_iff.mpr (eq_i res_at (Term.int_eval (1)) rfl), trivial⟩ ⟨hq.1, hq.2.1, (hq.2.2.sift fun y hy => Or.inr (N y hy)).mono (by decide) (by decide)⟩⟩
theorem main_1_1 : Claimed_1_1 := comes_1 fun _ _ _ _ _ _ h hF => ⟨h.1, hF⟩
theorem main_1_2 : Claimed_1_2 := comes_1 fun _ _ _ _ _ _ h hF => ⟨h.2.1, hF⟩
end Jvm.Pilot.@@N@@
namespace Jvm.Pilot.@@N@@
open Jvm Jvm.ClassFile Sem Op Lib Jvm.Free Jvm.Stand Jvm.Pilot.@@N@@.Jvm.D
/-! MADE BY PROGRAM (witnessworld.py) out of the Statement's table words and the real class files: 9 classes; the members and pool entries that the words name. The judged class is class 1, her method 1. -/
namespace start1
open Jvm.ClassFile
def u (s : String) : CpInfo := .utf8 (stringToUtf16 s)
/-- a pool by its gaps: so many unusable entries, then the entry; so many at the end -/
def gap : Nat → List CpInfo → List CpInfo
  | 0, r => r
  | n + 1, r => .unusable :: gap n r
def poolList (es : List (Nat × CpInfo)) (last : Nat) : List CpInfo := es.foldr (fun e r => gap e.1 (e.2 :: r)) (gap last [])
def pool (es : List (Nat × CpInfo)) (last : Nat) : Array CpInfo := ⟨poolList es last⟩
def fileOf (pool : Array CpInfo) (this : Nat) (attrs : Array Attribute := #[]) (ms : Array MethodInfo := #[]) (fl : Nat := 33) (sup : Nat := 0) (ifs : Array Nat := #[]) (fds : Array FieldInfo := #[]) : ClassFile where
  minorVersion := 0
  majorVersion := 65
  constantPool := pool
  accessFlags := fl
  thisClass := this
  superClass := sup
  interfaces := ifs
  fields := fds
  methods := ms
  attributes := attrs
def plain (name : String) (sup : Option ClassId) : Class where
  name := name
  kind := .ordinary
  loader := none
  accessFlags := 33
  super := sup
  interfaces := #[]
  cf := none
  fields := #[]
  methods := #[]
  instanceTypes := #[]
  staticTypes := #[]
  resolved := #[]
  callSites := []
  init := .initialized
  statics := none
  mirror := none

def pool0 : Array CpInfo := pool [(5, u "<init>"), (0, u "()V"), (1, .class_ 10), (1, u "java/lang/Object")] 113

def k0m0 : Method := { name := "<init>", desc := "()V", sig := { parameters := [], returnType := none }, accessFlags := 1, code := none }
/-- java/lang/Object -/
def k0 : Class := { plain "java/lang/Object" none with
  accessFlags := 33
  interfaces := #[]
  cf := some (fileOf pool0 8 #[] #[{ accessFlags := 1, nameIndex := 5, descriptorIndex := 6, attributes := #[] }] 33 0 #[] #[])
  fields := #[]
  methods := #[k0m0]
  instanceTypes := #[]
  staticTypes := #[]
  resolved := Array.replicate 124 none
  statics := none }

def pool1 : Array CpInfo := pool [(2, .class_ 4), (1, u "java/lang/Object"), (0, u "<init>"), (0, u "()V"), (0, .methodref 8 9), (0, .class_ 10), (0, .nameAndType 11 12), (0, u "com/example/markov_lumper/markovlumper/solver/ErrorBound"), (0, u "heldMember"), (0, u "([I[D)I"), (0, .class_ 14), (0, u "com/example/markov_lumper/markovlumper/solver/ErrorBoundHeldMemberPinLaw"), (2, u "law"), (0, u "(II)Z")] 7

def k1m0 : Method := { name := "<init>", desc := "()V", sig := { parameters := [], returnType := none }, accessFlags := 1, code := none }
def k1c1 : Code := { maxStack := 4, maxLocals := 12, code := code, exceptionTable := #[], attributes := #[] }
def k1m1 : Method := { name := "law", desc := "(II)Z", sig := { parameters := [.int, .int], returnType := some .boolean }, accessFlags := 9, code := some k1c1 }
/-- com/example/markov_lumper/markovlumper/solver/ErrorBoundHeldMemberPinLaw -/
def k1 : Class := { plain "com/example/markov_lumper/markovlumper/solver/ErrorBoundHeldMemberPinLaw" (some 0) with
  accessFlags := 49
  interfaces := #[]
  cf := some (fileOf pool1 13 #[] #[{ accessFlags := 1, nameIndex := 5, descriptorIndex := 6, attributes := #[] }, { accessFlags := 9, nameIndex := 17, descriptorIndex := 18, attributes := #[] }] 49 2 #[] #[])
  fields := #[]
  methods := #[k1m0, k1m1]
  instanceTypes := #[]
  staticTypes := #[]
  resolved := Array.replicate 26 none
  statics := none }

def pool2 : Array CpInfo := pool [(2, .class_ 4), (1, u "java/lang/Object"), (3, .class_ 10), (1, u "com/example/markov_lumper/markovlumper/solver/ErrorBound"), (0, u "generator"), (0, u "Lcom/example/markov_lumper/markovlumper/solver/Generator;"), (2, u "members"), (0, u "[I"), (2, u "held"), (0, u "I"), (2, u "weights"), (0, u "[D"), (2, u "least"), (56, u "FLOOR"), (0, u "D"), (1, u "EVALUATION"), (2, u "heldMember"), (0, u "([I[D)I")] 11

def k2c0 : Code := { maxStack := 4, maxLocals := 7, code := prog_77_method_2_code, exceptionTable := #[], attributes := #[] }
def k2m0 : Method := { name := "heldMember", desc := "([I[D)I", sig := { parameters := [(.array .int), (.array .double)], returnType := some .int }, accessFlags := 8, code := some k2c0 }
/-- com/example/markov_lumper/markovlumper/solver/ErrorBound -/
def k2 : Class := { plain "com/example/markov_lumper/markovlumper/solver/ErrorBound" (some 0) with
  accessFlags := 32
  interfaces := #[]
  cf := some (fileOf pool2 8 #[] #[{ accessFlags := 8, nameIndex := 90, descriptorIndex := 91, attributes := #[] }] 32 2 #[] #[{ accessFlags := 26, nameIndex := 84, descriptorIndex := 85, attributes := #[] }, { accessFlags := 26, nameIndex := 87, descriptorIndex := 85, attributes := #[] }, { accessFlags := 18, nameIndex := 11, descriptorIndex := 12, attributes := #[] }, { accessFlags := 18, nameIndex := 15, descriptorIndex := 16, attributes := #[] }, { accessFlags := 18, nameIndex := 19, descriptorIndex := 20, attributes := #[] }, { accessFlags := 18, nameIndex := 23, descriptorIndex := 24, attributes := #[] }, { accessFlags := 18, nameIndex := 27, descriptorIndex := 24, attributes := #[] }])
  fields := #[{ name := "FLOOR", type := .double, accessFlags := 26, slot := 0, constantValue := 0 }, { name := "EVALUATION", type := .double, accessFlags := 26, slot := 1, constantValue := 0 }, { name := "generator", type := (.object "com/example/markov_lumper/markovlumper/solver/Generator"), accessFlags := 18, slot := 0, constantValue := 0 }, { name := "members", type := (.array .int), accessFlags := 18, slot := 1, constantValue := 0 }, { name := "held", type := .int, accessFlags := 18, slot := 2, constantValue := 0 }, { name := "weights", type := (.array .double), accessFlags := 18, slot := 3, constantValue := 0 }, { name := "least", type := (.array .double), accessFlags := 18, slot := 4, constantValue := 0 }]
  methods := #[k2m0]
  instanceTypes := #[(.object "com/example/markov_lumper/markovlumper/solver/Generator"), (.array .int), .int, (.array .double), (.array .double)]
  staticTypes := #[.double, .double]
  resolved := Array.replicate 103 none
  statics := none }

def pool3 : Array CpInfo := pool [(1, u "java/lang/Cloneable"), (0, .class_ 1), (0, u "java/lang/Object"), (0, .class_ 3)] 3

/-- java/lang/Cloneable -/
def k3 : Class := { plain "java/lang/Cloneable" (some 0) with
  accessFlags := 1537
  interfaces := #[]
  cf := some (fileOf pool3 2 #[] #[] 1537 4 #[] #[])
  fields := #[]
  methods := #[]
  instanceTypes := #[]
  staticTypes := #[]
  resolved := Array.replicate 8 none
  statics := none }

def pool4 : Array CpInfo := pool [(1, u "java/io/Serializable"), (0, .class_ 1), (0, u "java/lang/Object"), (0, .class_ 3)] 3

/-- java/io/Serializable -/
def k4 : Class := { plain "java/io/Serializable" (some 0) with
  accessFlags := 1537
  interfaces := #[]
  cf := some (fileOf pool4 2 #[] #[] 1537 4 #[] #[])
  fields := #[]
  methods := #[]
  instanceTypes := #[]
  staticTypes := #[]
  resolved := Array.replicate 8 none
  statics := none }

/-- the primitive byte -/
def k5 : Class := { plain "byte" none with kind := .primitive 'B', accessFlags := 0x411 }
/-- [B -/
def k6 : Class := { plain "[B" (some 0) with kind := .array 5 .byte, interfaces := #[3, 4], accessFlags := 1041 }

/-- the primitive int -/
def k7 : Class := { plain "int" none with kind := .primitive 'I', accessFlags := 0x411 }
/-- [I -/
def k8 : Class := { plain "[I" (some 0) with kind := .array 7 .int, interfaces := #[3, 4], accessFlags := 1041 }

def heap : Heap := #[]
def k9 : Class := { plain "double" none with kind := .primitive 'D', accessFlags := 0x411 }
def k10 : Class := { plain "[D" (some 0) with kind := .array 9 .double, interfaces := #[3, 4], accessFlags := 1041 }
def classes : Array Class := #[k0, k1, k2, k3, k4, k5, k6, k7, k8, k9, k10]
def interned : List (Array UInt16 × Addr) := []
def slotsUsed : Nat := 0
def theMethod : MethodId := ⟨1, 1⟩
def args0 : Array Value := #[.int 5, .int 3]
def aboutOver (below : List Frame) : State where
  vm := { classes := classes, interned := interned.toArray }
  heap := heap
  slotsUsed := slotsUsed
  threads := #[{ frames := .invoking theMethod args0 :: below }]
def below0 : List Frame := [.native { method := ⟨0, 0⟩, args := #[] }]
def about1 : State := aboutOver below0
def p0 : Program := .bare "" "" ""
def e0 : Env := launch0.env 0 0 0
theorem w_frames : about1.frames = Frame.invoking theMethod args0 :: below0 := rfl
set_option maxRecDepth 65536 in
theorem w_args : argsFit about1.vm theMethod args0 = true := by decide +kernel
set_option maxRecDepth 65536 in
theorem w_heap : heapFits about1 = true := by decide +kernel
set_option maxRecDepth 65536 in
theorem w_runnable : about1.curStatus? = some .runnable := by decide +kernel
set_option maxRecDepth 65536 in
theorem w_alone : about1.alone = true := by decide +kernel
set_option maxRecDepth 65536 in
theorem w_named : about1.methodNamed? x = some theMethod := by decide +kernel
set_option maxRecDepth 65536 in
theorem w_hears : about1.hears theMethod below0 = true := by decide +kernel
set_option maxRecDepth 65536 in
theorem w_ripe : about1.ripe theMethod args0 below0 = true := by decide +kernel
theorem w_running : about1.status = .running := rfl
set_option maxRecDepth 65536 in
theorem w_room : about1.hasRoom e0.platform room_1 = true :=
  launch0.hasRoom_least _ room_1 (by decide +kernel) (by decide +kernel) (by decide +kernel) (by decide +kernel) (by decide +kernel) (by decide +kernel)
theorem allAtoms_all (ts : List Jvm.Cond) (a : Array Jvm.Value) (st : Jvm.State) : (allAtoms ts).before a st = ts.all (fun c => c.before a st) := by
  induction ts with
  | nil => rfl
  | cons c t ih =>
    show (Jvm.Cond.and c (allAtoms t)).before a st = _
    rw [Jvm.Cond.before_and, ih, List.all_cons]
def words1 : List Jvm.Cond := Jvm.Cond.code x code maxLocals ret :: tables_1
/-- a 'code' word, met by the world's own term for the bytes: nothing is compared byte by byte -/
theorem code_word {y : MethodName} {bytes : ByteArray} {mx : Nat} {rt : Option FieldType} {a : Array Value} {s : State} {m : MethodId} {meth : Method} {c : Code} (h1 : s.methodNamed? y = some m) (h2 : s.vm.method? m = some meth) (h3 : meth.code = some c) (h4 : c.code = bytes)
    (h5 : (c.maxLocals == mx && c.exceptionTable.isEmpty && decide (c.maxStack ≤ mostOperands) && decide (meth.sig.returnType = rt) && !meth.locks && decide (parseMethodDescriptor y.desc = some meth.sig)) = true) : (Jvm.Cond.code y bytes mx rt).before a s = true := by
  simp only [Bool.and_eq_true, beq_iff_eq, Bool.not_eq_true', decide_eq_true_eq] at h5
  obtain ⟨⟨⟨⟨⟨g1, g2⟩, g3⟩, g4⟩, g5⟩, g6⟩ := h5
  simp [Cond.before, Cond.holds, Cond.value, h1, h2, h3, h4, g1, g2, g3, g4, g5, g6]
def isCode : Jvm.Cond → Bool
  | .code _ _ _ _ => true
  | _ => false
theorem all_split {L : List Jvm.Cond} {P : Jvm.Cond → Bool} (h1 : L.all (fun c => isCode c || P c) = true) (h2 : ∀ c ∈ L.filter isCode, P c = true) : L.all P = true := by
  refine List.all_eq_true.mpr fun c hc => ?_
  have h := List.all_eq_true.mp h1 c hc
  rcases Bool.eq_false_or_eq_true (isCode c) with hi | hi
  · exact h2 c (List.mem_filter.mpr ⟨hc, hi⟩)
  · simpa [hi] using h
set_option maxRecDepth 65536 in
theorem w_c0 : (Jvm.Cond.code x code maxLocals ret).before args0 about1 = true := code_word (m := ⟨1, 1⟩) (meth := k1m1) (c := k1c1) (by decide +kernel) rfl rfl rfl (by decide +kernel)
set_option maxRecDepth 65536 in
theorem w_c1 : (Jvm.Cond.code ({ cls := "com/example/markov_lumper/markovlumper/solver/ErrorBound", name := "heldMember", desc := "([I[D)I" } : Jvm.MethodName) prog_77_method_2_code (7 : Nat) (Option.some Jvm.ClassFile.FieldType.int)).before args0 about1 = true := code_word (m := ⟨2, 0⟩) (meth := k2m0) (c := k2c0) (by decide +kernel) rfl rfl rfl (by decide +kernel)
def codes1 : List Jvm.Cond := [Jvm.Cond.code x code maxLocals ret, Jvm.Cond.code ({ cls := "com/example/markov_lumper/markovlumper/solver/ErrorBound", name := "heldMember", desc := "([I[D)I" } : Jvm.MethodName) prog_77_method_2_code (7 : Nat) (Option.some Jvm.ClassFile.FieldType.int)]
set_option maxRecDepth 65536 in
theorem codes_eq : words1.filter isCode = codes1 := rfl
theorem w_codes : ∀ c ∈ words1.filter isCode, c.before args0 about1 = true := by
  rw [codes_eq]
  intro c hc
  simp only [codes1, List.mem_cons, List.not_mem_nil, or_false] at hc
  rcases hc with rfl | rfl
  · exact w_c0
  · exact w_c1
set_option maxRecDepth 65536 in
theorem w_t1 : words1.all (fun c => isCode c || c.before args0 about1) = true := by decide +kernel
theorem w_tables : (allAtoms (Jvm.Cond.code x code maxLocals ret :: tables_1)).before args0 about1 = true := by
  rw [allAtoms_all]
  show words1.all (fun c => c.before args0 about1) = true
  refine all_split ?_ w_codes
  rw [w_t1]
set_option maxRecDepth 65536 in
theorem w_case : (Jvm.Cond.and given_1 narrow_1).before args0 about1 = true := by decide +kernel
theorem w_applies : (headSpec (Jvm.Cond.code x code maxLocals ret :: tables_1) room_1).applies x e0.platform about1 = true :=
  (Spec.applies_iff w_frames).mpr ⟨w_running, w_runnable, w_alone, w_named, w_hears, w_ripe, w_room, w_tables⟩
theorem atStart : AtStart classFile x code maxLocals ret World_1 tables_1 room_1 Calls_1 rest_1 Pre_1 launch0 p0 e0 about1 theMethod args0 below0 :=
  ⟨lists_1, trivial, launch0.admits_env _ _ _, launch0.least_env, fairChoices_fair.cas, fairChoices_fair.clock, w_frames, w_args, w_heap, w_applies, trivial, trivial, w_case⟩
end start1
theorem witness_1 : WitnessClaimed_1 := ⟨start1.p0, start1.e0, start1.about1, start1.theMethod, start1.args0, start1.below0, start1.atStart⟩
end Jvm.Pilot.@@N@@
