import JvmDerived
import JvmDerived.Pilot.@@N@@Statement
import JvmDerived.Pilot.@@N@@Code
set_option linter.unusedVariables false
set_option linter.unusedSimpArgs false
namespace Jvm.Pilot.@@N@@
open Jvm Jvm.ClassFile Sem Op Lib Jvm.Free Jvm.Stand Jvm.LawKit Jvm.RoadKit Bundle Jvm.Pilot.@@N@@.Jvm.D
section OwnKit
variable {p : Program} {l : Launch} {e : Env} {R : Room} {s : State} {m : MethodId} {args : Array Value} {below : List Frame} {meth : Method} {c : Code} {T T' : State} {locs : List Loc} {cells slots : Nat} {P : Outcome → State → Prop} {Q : Option Value → Heap → List Loc → Prop} {cC cS : Nat} {bytes : ByteArray} {ls : Array Slot} {st : List Value} {pc pc' : Nat} {g g' : JFrame} {Z : State} {a0 : Array Value} {h h' : Heap}
/-- from this state and frame the method comes to its end, returns, and Q holds of what it leaves -/
def own_Got (p : Program) (e : Env) (below : List Frame) (P : Outcome → State → Prop) (T : State) (g : JFrame) : Prop :=
  ∃ s₂ o, Steps p.tables e below (T.setTop g) s₂ ∧ s₂.status = .running ∧ Ended s₂ below o ∧ P o s₂
/-- what a contract says of the end -/
def own_End (s : State) (Q : Option Value → Heap → List Loc → Prop) (cC cS : Nat) (o : Outcome) (U : State) : Prop := ∃ v L, o = .returned v ∧ Q v U.heap L ∧ FrameEnd s o U L cC cS
theorem own_go (k : ∀ t, Steps p.tables e below (T'.setTop g') t → Steps p.tables e below (T.setTop g) t) (h : own_Got p e below P T' g') : own_Got p e below P T g := by
  obtain ⟨s2, o, h1, h2⟩ := h; exact ⟨s2, o, k _ h1, h2⟩
theorem own_tr (k : Steps p.tables e below (T.setTop g) (T'.setTop g')) (h : own_Got p e below P T' g') : own_Got p e below P T g := own_go (fun _ q => k.trans q) h
theorem own_cast (q : g = g') (h : own_Got p e below P T g') : own_Got p e below P T g := q ▸ h
theorem own_retV (X : Stand p l e R s m args below meth c T locs cells slots) (hx : p.tables.exec = Jvm.exec) (hby : c.code = bytes) (hlk : meth.locks = false) (hret : meth.sig.returnType = none) (hd : decode bytes pc = .ok (.return_, 1)) (hc : cells ≤ cC) (hs : slots ≤ cS)
    (hq : Q none T.heap locs) : own_Got p e below (own_End s Q cC cS) T (mkF m pc ls []) := by
  obtain ⟨fs, hr, hrun, hended, hW, hsame⟩ := X.leave (v := none) (fun _ => rfl) hlk
  exact ⟨_, _, X.returnOut hx hret (hb hby hd) hr, hrun, hended, _, _, rfl, hq, ⟨_, rfl⟩, hW, hsame.mono hc hs⟩
theorem own_retI (X : Stand p l e R s m args below meth c T locs cells slots) (hx : p.tables.exec = Jvm.exec) (hby : c.code = bytes) (hlk : meth.locks = false) (hret : meth.sig.returnType = some .int) (hd : decode bytes pc = .ok (.ireturn, 1)) (hc : cells ≤ cC) (hs : slots ≤ cS) {z : Int32}
    (hq : Q (some (.int z)) T.heap locs) : own_Got p e below (own_End s Q cC cS) T (mkF m pc ls (.int z :: st)) := by
  obtain ⟨fs, hr, hrun, hended, hW, hsame⟩ := X.leave (v := some (.int z)) (fun h => by rw [hret] at h; cases h) hlk
  exact ⟨_, _, retOut X hx hret rfl (Or.inl ⟨rfl, Or.inl rfl, _, rfl⟩) (hb hby hd) hr, hrun, hended, _, _, rfl, hq, ⟨_, rfl⟩, hW, hsame.mono hc hs⟩
theorem own_retL (X : Stand p l e R s m args below meth c T locs cells slots) (hx : p.tables.exec = Jvm.exec) (hby : c.code = bytes) (hlk : meth.locks = false) (hret : meth.sig.returnType = some .long) (hd : decode bytes pc = .ok (.lreturn, 1)) (hc : cells ≤ cC) (hs : slots ≤ cS) {z : Int64}
    (hq : Q (some (.long z)) T.heap locs) : own_Got p e below (own_End s Q cC cS) T (mkF m pc ls (.long z :: st)) := by
  obtain ⟨fs, hr, hrun, hended, hW, hsame⟩ := X.leave (v := some (.long z)) (fun h => by rw [hret] at h; cases h) hlk
  exact ⟨_, _, retOut X hx hret rfl (Or.inr (Or.inl ⟨rfl, rfl, _, rfl⟩)) (hb hby hd) hr, hrun, hended, _, _, rfl, hq, ⟨_, rfl⟩, hW, hsame.mono hc hs⟩
theorem own_retD (X : Stand p l e R s m args below meth c T locs cells slots) (hx : p.tables.exec = Jvm.exec) (hby : c.code = bytes) (hlk : meth.locks = false) (hret : meth.sig.returnType = some .double) (hd : decode bytes pc = .ok (.dreturn, 1)) (hc : cells ≤ cC) (hs : slots ≤ cS) {z : UInt64}
    (hq : Q (some (.double z)) T.heap locs) : own_Got p e below (own_End s Q cC cS) T (mkF m pc ls (.double z :: st)) := by
  obtain ⟨fs, hr, hrun, hended, hW, hsame⟩ := X.leave (v := some (.double z)) (fun h => by rw [hret] at h; cases h) hlk
  exact ⟨_, _, retOut X hx hret rfl (Or.inr (Or.inr (Or.inl ⟨rfl, rfl, _, rfl⟩))) (hb hby hd) hr, hrun, hended, _, _, rfl, hq, ⟨_, rfl⟩, hW, hsame.mono hc hs⟩
theorem own_retN (X : Stand p l e R s m args below meth c T locs cells slots) (hx : p.tables.exec = Jvm.exec) (hby : c.code = bytes) (hlk : meth.locks = false) {t : FieldType} (hret : meth.sig.returnType = some t) (ht : t = .boolean ∨ t = .byte ∨ t = .char ∨ t = .short) (hd : decode bytes pc = .ok (.ireturn, 1)) (hc : cells ≤ cC) (hs : slots ≤ cS) {z : Int32}
    (hq : Q (some (.int (nar t z))) T.heap locs) : own_Got p e below (own_End s Q cC cS) T (mkF m pc ls (.int z :: st)) := by
  obtain ⟨fs, hr, hrun, hended, hW, hsame⟩ := X.leave (v := some (.int (nar t z))) (fun h => by rw [hret] at h; cases h) hlk
  exact ⟨_, _, retN X hx hret ht (hb hby hd) hr, hrun, hended, _, _, rfl, hq, ⟨_, rfl⟩, hW, hsame.mono hc hs⟩
theorem own_retR (X : Stand p l e R s m args below meth c T locs cells slots) (hx : p.tables.exec = Jvm.exec) (hby : c.code = bytes) (hlk : meth.locks = false) {t : FieldType} (hret : meth.sig.returnType = some t) (ht : t.isReference = true) (hd : decode bytes pc = .ok (.areturn, 1)) (hc : cells ≤ cC) (hs : slots ≤ cS) {w : Value} (hw : w.isRef = true)
    (hq : Q (some w) T.heap locs) : own_Got p e below (own_End s Q cC cS) T (mkF m pc ls (w :: st)) := by
  obtain ⟨fs, hr, hrun, hended, hW, hsame⟩ := X.leave (v := some w) (fun h => by rw [hret] at h; cases h) hlk
  have hn : narrow t w = w := by rcases ref_cases hw with rfl | ⟨a, rfl⟩ <;> cases t <;> first | rfl | (cases ht)
  exact ⟨_, _, retOut X hx hret hn (Or.inr (Or.inr (Or.inr (Or.inr ⟨rfl, ht, hw⟩)))) (hb hby hd) hr, hrun, hended, _, _, rfl, hq, ⟨_, rfl⟩, hW, hsame.mono hc hs⟩
theorem g_iloadN (X : Stand p l e R s m args below meth c T locs cells slots) (hx : p.tables.exec = Jvm.exec) (hby : c.code = bytes) {k : Fin 4} {v : Int32} (hd : decode bytes pc = .ok (.iload_n k, 1)) (hl : ls[k.val]? = some (.val (.int v))) (hp : pc + 1 = pc')
    (k : own_Got p e below P T (mkF m pc' ls (.int v :: st))) : own_Got p e below P T (mkF m pc ls (st)) := by
  subst hp; exact own_go (fun _ q => XS.iloadN X.here hx rfl (hb hby hd) hl q) k
theorem g_iload (X : Stand p l e R s m args below meth c T locs cells slots) (hx : p.tables.exec = Jvm.exec) (hby : c.code = bytes) {k : Nat} {v : Int32} (hd : decode bytes pc = .ok (.iload k, 2)) (hl : ls[k]? = some (.val (.int v))) (hp : pc + 2 = pc')
    (k : own_Got p e below P T (mkF m pc' ls (.int v :: st))) : own_Got p e below P T (mkF m pc ls (st)) := by
  subst hp; exact own_go (fun _ q => XS.iload X.here hx rfl (hb hby hd) hl q) k
theorem g_lloadN (X : Stand p l e R s m args below meth c T locs cells slots) (hx : p.tables.exec = Jvm.exec) (hby : c.code = bytes) {k : Fin 4} {v : Int64} (hd : decode bytes pc = .ok (.lload_n k, 1)) (hl : ls[k.val]? = some (.val (.long v))) (hp : pc + 1 = pc')
    (k : own_Got p e below P T (mkF m pc' ls (.long v :: st))) : own_Got p e below P T (mkF m pc ls (st)) := by
  subst hp; exact own_go (fun _ q => XS.lloadN X.here hx rfl (hb hby hd) hl q) k
theorem g_lload (X : Stand p l e R s m args below meth c T locs cells slots) (hx : p.tables.exec = Jvm.exec) (hby : c.code = bytes) {k : Nat} {v : Int64} (hd : decode bytes pc = .ok (.lload k, 2)) (hl : ls[k]? = some (.val (.long v))) (hp : pc + 2 = pc')
    (k : own_Got p e below P T (mkF m pc' ls (.long v :: st))) : own_Got p e below P T (mkF m pc ls (st)) := by
  subst hp; exact own_go (fun _ q => XS.lload X.here hx rfl (hb hby hd) hl q) k
theorem g_dloadN (X : Stand p l e R s m args below meth c T locs cells slots) (hx : p.tables.exec = Jvm.exec) (hby : c.code = bytes) {k : Fin 4} {v : UInt64} (hd : decode bytes pc = .ok (.dload_n k, 1)) (hl : ls[k.val]? = some (.val (.double v))) (hp : pc + 1 = pc')
    (k : own_Got p e below P T (mkF m pc' ls (.double v :: st))) : own_Got p e below P T (mkF m pc ls (st)) := by
  subst hp; exact own_go (fun _ q => XS.dloadN X.here hx rfl (hb hby hd) hl q) k
theorem g_dload (X : Stand p l e R s m args below meth c T locs cells slots) (hx : p.tables.exec = Jvm.exec) (hby : c.code = bytes) {k : Nat} {v : UInt64} (hd : decode bytes pc = .ok (.dload k, 2)) (hl : ls[k]? = some (.val (.double v))) (hp : pc + 2 = pc')
    (k : own_Got p e below P T (mkF m pc' ls (.double v :: st))) : own_Got p e below P T (mkF m pc ls (st)) := by
  subst hp; exact own_go (fun _ q => XS.dload X.here hx rfl (hb hby hd) hl q) k
theorem g_aloadN (X : Stand p l e R s m args below meth c T locs cells slots) (hx : p.tables.exec = Jvm.exec) (hby : c.code = bytes) {k : Fin 4} {v : Value} (hd : decode bytes pc = .ok (.aload_n k, 1)) (hl : ls[k.val]? = some (.val v)) (hv : v.isRef = true) (hp : pc + 1 = pc')
    (k : own_Got p e below P T (mkF m pc' ls (v :: st))) : own_Got p e below P T (mkF m pc ls (st)) := by
  subst hp; exact own_go (fun _ q => XS.aloadN X.here hx rfl (hb hby hd) hl hv q) k
theorem g_aload (X : Stand p l e R s m args below meth c T locs cells slots) (hx : p.tables.exec = Jvm.exec) (hby : c.code = bytes) {k : Nat} {v : Value} (hd : decode bytes pc = .ok (.aload k, 2)) (hl : ls[k]? = some (.val v)) (hv : v.isRef = true) (hp : pc + 2 = pc')
    (k : own_Got p e below P T (mkF m pc' ls (v :: st))) : own_Got p e below P T (mkF m pc ls (st)) := by
  subst hp; exact own_go (fun _ q => XS.aload X.here hx rfl (hb hby hd) hl hv q) k
theorem g_istoreN (X : Stand p l e R s m args below meth c T locs cells slots) (hx : p.tables.exec = Jvm.exec) (hby : c.code = bytes) {k : Fin 4} {x : Int32} (ls' : Array Slot) (hd : decode bytes pc = .ok (.istore_n k, 1)) (hl : storeLocals ls k.val (.int x) = some ls') (hp : pc + 1 = pc')
    (k : own_Got p e below P T (mkF m pc' ls' (st))) : own_Got p e below P T (mkF m pc ls (.int x :: st)) := by
  subst hp; exact own_go (fun _ q => XS.istoreN X.here hx rfl (hb hby hd) rfl hl q) k
theorem g_istore (X : Stand p l e R s m args below meth c T locs cells slots) (hx : p.tables.exec = Jvm.exec) (hby : c.code = bytes) {k : Nat} {x : Int32} (ls' : Array Slot) (hd : decode bytes pc = .ok (.istore k, 2)) (hl : storeLocals ls k (.int x) = some ls') (hp : pc + 2 = pc')
    (k : own_Got p e below P T (mkF m pc' ls' (st))) : own_Got p e below P T (mkF m pc ls (.int x :: st)) := by
  subst hp; exact own_go (fun _ q => XS.istore X.here hx rfl (hb hby hd) rfl hl q) k
theorem g_lstoreN (X : Stand p l e R s m args below meth c T locs cells slots) (hx : p.tables.exec = Jvm.exec) (hby : c.code = bytes) {k : Fin 4} {x : Int64} (ls' : Array Slot) (hd : decode bytes pc = .ok (.lstore_n k, 1)) (hl : storeLocals ls k.val (.long x) = some ls') (hp : pc + 1 = pc')
    (k : own_Got p e below P T (mkF m pc' ls' (st))) : own_Got p e below P T (mkF m pc ls (.long x :: st)) := by
  subst hp; exact own_go (fun _ q => XS.lstoreN X.here hx rfl (hb hby hd) rfl hl q) k
theorem g_lstore (X : Stand p l e R s m args below meth c T locs cells slots) (hx : p.tables.exec = Jvm.exec) (hby : c.code = bytes) {k : Nat} {x : Int64} (ls' : Array Slot) (hd : decode bytes pc = .ok (.lstore k, 2)) (hl : storeLocals ls k (.long x) = some ls') (hp : pc + 2 = pc')
    (k : own_Got p e below P T (mkF m pc' ls' (st))) : own_Got p e below P T (mkF m pc ls (.long x :: st)) := by
  subst hp; exact own_go (fun _ q => XS.lstore X.here hx rfl (hb hby hd) rfl hl q) k
theorem g_dstoreN (X : Stand p l e R s m args below meth c T locs cells slots) (hx : p.tables.exec = Jvm.exec) (hby : c.code = bytes) {k : Fin 4} {x : UInt64} (ls' : Array Slot) (hd : decode bytes pc = .ok (.dstore_n k, 1)) (hl : storeLocals ls k.val (.double x) = some ls') (hp : pc + 1 = pc')
    (k : own_Got p e below P T (mkF m pc' ls' (st))) : own_Got p e below P T (mkF m pc ls (.double x :: st)) := by
  subst hp; exact own_go (fun _ q => XS.dstoreN X.here hx rfl (hb hby hd) rfl hl q) k
theorem g_dstore (X : Stand p l e R s m args below meth c T locs cells slots) (hx : p.tables.exec = Jvm.exec) (hby : c.code = bytes) {k : Nat} {x : UInt64} (ls' : Array Slot) (hd : decode bytes pc = .ok (.dstore k, 2)) (hl : storeLocals ls k (.double x) = some ls') (hp : pc + 2 = pc')
    (k : own_Got p e below P T (mkF m pc' ls' (st))) : own_Got p e below P T (mkF m pc ls (.double x :: st)) := by
  subst hp; exact own_go (fun _ q => XS.dstore X.here hx rfl (hb hby hd) rfl hl q) k
theorem g_astoreN (X : Stand p l e R s m args below meth c T locs cells slots) (hx : p.tables.exec = Jvm.exec) (hby : c.code = bytes) {k : Fin 4} {x : Value} (ls' : Array Slot) (hd : decode bytes pc = .ok (.astore_n k, 1)) (hv : x.isRef = true) (hl : storeLocals ls k.val x = some ls') (hp : pc + 1 = pc')
    (k : own_Got p e below P T (mkF m pc' ls' (st))) : own_Got p e below P T (mkF m pc ls (x :: st)) := by
  subst hp; exact own_go (fun _ q => XS.astoreN X.here hx rfl (hb hby hd) rfl hv hl q) k
theorem g_astore (X : Stand p l e R s m args below meth c T locs cells slots) (hx : p.tables.exec = Jvm.exec) (hby : c.code = bytes) {k : Nat} {x : Value} (ls' : Array Slot) (hd : decode bytes pc = .ok (.astore k, 2)) (hv : x.isRef = true) (hl : storeLocals ls k x = some ls') (hp : pc + 2 = pc')
    (k : own_Got p e below P T (mkF m pc' ls' (st))) : own_Got p e below P T (mkF m pc ls (x :: st)) := by
  subst hp; exact own_go (fun _ q => XS.astore X.here hx rfl (hb hby hd) rfl hv hl q) k
theorem g_iconst (X : Stand p l e R s m args below meth c T locs cells slots) (hx : p.tables.exec = Jvm.exec) (hby : c.code = bytes) {i : Int} (z : Int32) (hd : decode bytes pc = .ok (.iconst i, 1)) (hz : Int32.ofInt i = z) (hp : pc + 1 = pc')
    (k : own_Got p e below P T (mkF m pc' ls (.int z :: st))) : own_Got p e below P T (mkF m pc ls (st)) := by
  subst hp; subst hz; exact own_go (fun _ q => XS.iconst X.here hx rfl (hb hby hd) q) k
theorem g_bipush (X : Stand p l e R s m args below meth c T locs cells slots) (hx : p.tables.exec = Jvm.exec) (hby : c.code = bytes) {i : Int} (z : Int32) (hd : decode bytes pc = .ok (.bipush i, 2)) (hz : (Int8.ofInt i).toInt32 = z) (hp : pc + 2 = pc')
    (k : own_Got p e below P T (mkF m pc' ls (.int z :: st))) : own_Got p e below P T (mkF m pc ls (st)) := by
  subst hp; subst hz; exact own_go (fun _ q => XS.bipush X.here hx rfl (hb hby hd) q) k
theorem g_sipush (X : Stand p l e R s m args below meth c T locs cells slots) (hx : p.tables.exec = Jvm.exec) (hby : c.code = bytes) {i : Int} (z : Int32) (hd : decode bytes pc = .ok (.sipush i, 3)) (hz : (Int16.ofInt i).toInt32 = z) (hp : pc + 3 = pc')
    (k : own_Got p e below P T (mkF m pc' ls (.int z :: st))) : own_Got p e below P T (mkF m pc ls (st)) := by
  subst hp; subst hz; exact own_go (fun _ q => XS.sipush X.here hx rfl (hb hby hd) q) k
theorem g_lconst (X : Stand p l e R s m args below meth c T locs cells slots) (hx : p.tables.exec = Jvm.exec) (hby : c.code = bytes) {i : Fin 2} (z : Int64) (hd : decode bytes pc = .ok (.lconst i, 1)) (hz : Int64.ofNat i.val = z) (hp : pc + 1 = pc')
    (k : own_Got p e below P T (mkF m pc' ls (.long z :: st))) : own_Got p e below P T (mkF m pc ls (st)) := by
  subst hp; subst hz; exact own_go (fun _ q => XS.lconst X.here hx rfl (hb hby hd) q) k
theorem g_anull (X : Stand p l e R s m args below meth c T locs cells slots) (hx : p.tables.exec = Jvm.exec) (hby : c.code = bytes)  (hd : decode bytes pc = .ok (.aconst_null, 1))  (hp : pc + 1 = pc')
    (k : own_Got p e below P T (mkF m pc' ls (.null :: st))) : own_Got p e below P T (mkF m pc ls (st)) := by
  subst hp; exact own_go (fun _ q => XS.aconstNull X.here hx rfl (hb hby hd) q) k
theorem g_iadd (X : Stand p l e R s m args below meth c T locs cells slots) (hx : p.tables.exec = Jvm.exec) (hby : c.code = bytes) {x y : Int32} (hd : decode bytes pc = .ok (.iadd, 1))  (hp : pc + 1 = pc')
    (k : own_Got p e below P T (mkF m pc' ls (.int (x + y) :: st))) : own_Got p e below P T (mkF m pc ls (.int y :: .int x :: st)) := by
  subst hp; exact own_go (fun _ q => XS.iadd X.here hx rfl (hb hby hd) rfl q) k
theorem g_isub (X : Stand p l e R s m args below meth c T locs cells slots) (hx : p.tables.exec = Jvm.exec) (hby : c.code = bytes) {x y : Int32} (hd : decode bytes pc = .ok (.isub, 1))  (hp : pc + 1 = pc')
    (k : own_Got p e below P T (mkF m pc' ls (.int (x - y) :: st))) : own_Got p e below P T (mkF m pc ls (.int y :: .int x :: st)) := by
  subst hp; exact own_go (fun _ q => XS.isub X.here hx rfl (hb hby hd) rfl q) k
theorem g_iand (X : Stand p l e R s m args below meth c T locs cells slots) (hx : p.tables.exec = Jvm.exec) (hby : c.code = bytes) {x y : Int32} (hd : decode bytes pc = .ok (.iand, 1))  (hp : pc + 1 = pc')
    (k : own_Got p e below P T (mkF m pc' ls (.int (x &&& y) :: st))) : own_Got p e below P T (mkF m pc ls (.int y :: .int x :: st)) := by
  subst hp; exact own_go (fun _ q => XS.iand X.here hx rfl (hb hby hd) rfl q) k
theorem g_ior (X : Stand p l e R s m args below meth c T locs cells slots) (hx : p.tables.exec = Jvm.exec) (hby : c.code = bytes) {x y : Int32} (hd : decode bytes pc = .ok (.ior, 1))  (hp : pc + 1 = pc')
    (k : own_Got p e below P T (mkF m pc' ls (.int (x ||| y) :: st))) : own_Got p e below P T (mkF m pc ls (.int y :: .int x :: st)) := by
  subst hp; exact own_go (fun _ q => XS.ior X.here hx rfl (hb hby hd) rfl q) k
theorem g_ixor (X : Stand p l e R s m args below meth c T locs cells slots) (hx : p.tables.exec = Jvm.exec) (hby : c.code = bytes) {x y : Int32} (hd : decode bytes pc = .ok (.ixor, 1))  (hp : pc + 1 = pc')
    (k : own_Got p e below P T (mkF m pc' ls (.int (x ^^^ y) :: st))) : own_Got p e below P T (mkF m pc ls (.int y :: .int x :: st)) := by
  subst hp; exact own_go (fun _ q => XS.ixor X.here hx rfl (hb hby hd) rfl q) k
theorem g_imul (X : Stand p l e R s m args below meth c T locs cells slots) (hx : p.tables.exec = Jvm.exec) (hby : c.code = bytes) {x y : Int32} (hd : decode bytes pc = .ok (.imul, 1))  (hp : pc + 1 = pc')
    (k : own_Got p e below P T (mkF m pc' ls (.int (x * y) :: st))) : own_Got p e below P T (mkF m pc ls (.int y :: .int x :: st)) := by
  subst hp; exact own_go (fun _ q => XS.imul X.here hx rfl (hb hby hd) rfl q) k
theorem g_ladd (X : Stand p l e R s m args below meth c T locs cells slots) (hx : p.tables.exec = Jvm.exec) (hby : c.code = bytes) {x y : Int64} (hd : decode bytes pc = .ok (.ladd, 1))  (hp : pc + 1 = pc')
    (k : own_Got p e below P T (mkF m pc' ls (.long (x + y) :: st))) : own_Got p e below P T (mkF m pc ls (.long y :: .long x :: st)) := by
  subst hp; exact own_go (fun _ q => XS.ladd X.here hx rfl (hb hby hd) rfl q) k
theorem g_lsub (X : Stand p l e R s m args below meth c T locs cells slots) (hx : p.tables.exec = Jvm.exec) (hby : c.code = bytes) {x y : Int64} (hd : decode bytes pc = .ok (.lsub, 1))  (hp : pc + 1 = pc')
    (k : own_Got p e below P T (mkF m pc' ls (.long (x - y) :: st))) : own_Got p e below P T (mkF m pc ls (.long y :: .long x :: st)) := by
  subst hp; exact own_go (fun _ q => XS.lsub X.here hx rfl (hb hby hd) rfl q) k
theorem g_land (X : Stand p l e R s m args below meth c T locs cells slots) (hx : p.tables.exec = Jvm.exec) (hby : c.code = bytes) {x y : Int64} (hd : decode bytes pc = .ok (.land, 1))  (hp : pc + 1 = pc')
    (k : own_Got p e below P T (mkF m pc' ls (.long (x &&& y) :: st))) : own_Got p e below P T (mkF m pc ls (.long y :: .long x :: st)) := by
  subst hp; exact own_go (fun _ q => XS.land X.here hx rfl (hb hby hd) rfl q) k
theorem g_lor (X : Stand p l e R s m args below meth c T locs cells slots) (hx : p.tables.exec = Jvm.exec) (hby : c.code = bytes) {x y : Int64} (hd : decode bytes pc = .ok (.lor, 1))  (hp : pc + 1 = pc')
    (k : own_Got p e below P T (mkF m pc' ls (.long (x ||| y) :: st))) : own_Got p e below P T (mkF m pc ls (.long y :: .long x :: st)) := by
  subst hp; exact own_go (fun _ q => XS.lor X.here hx rfl (hb hby hd) rfl q) k
theorem g_lxor (X : Stand p l e R s m args below meth c T locs cells slots) (hx : p.tables.exec = Jvm.exec) (hby : c.code = bytes) {x y : Int64} (hd : decode bytes pc = .ok (.lxor, 1))  (hp : pc + 1 = pc')
    (k : own_Got p e below P T (mkF m pc' ls (.long (x ^^^ y) :: st))) : own_Got p e below P T (mkF m pc ls (.long y :: .long x :: st)) := by
  subst hp; exact own_go (fun _ q => XS.lxor X.here hx rfl (hb hby hd) rfl q) k
theorem g_lmul (X : Stand p l e R s m args below meth c T locs cells slots) (hx : p.tables.exec = Jvm.exec) (hby : c.code = bytes) {x y : Int64} (hd : decode bytes pc = .ok (.lmul, 1))  (hp : pc + 1 = pc')
    (k : own_Got p e below P T (mkF m pc' ls (.long (x * y) :: st))) : own_Got p e below P T (mkF m pc ls (.long y :: .long x :: st)) := by
  subst hp; exact own_go (fun _ q => XS.lmul X.here hx rfl (hb hby hd) rfl q) k
theorem g_idiv (X : Stand p l e R s m args below meth c T locs cells slots) (hx : p.tables.exec = Jvm.exec) (hby : c.code = bytes) {x y : Int32} (hd : decode bytes pc = .ok (.idiv, 1)) (hy : y ≠ 0) (hp : pc + 1 = pc')
    (k : own_Got p e below P T (mkF m pc' ls (.int (x / y) :: st))) : own_Got p e below P T (mkF m pc ls (.int y :: .int x :: st)) := by
  subst hp; exact own_go (fun _ q => XS.idiv X.here hx rfl (hb hby hd) rfl hy q) k
theorem g_irem (X : Stand p l e R s m args below meth c T locs cells slots) (hx : p.tables.exec = Jvm.exec) (hby : c.code = bytes) {x y : Int32} (hd : decode bytes pc = .ok (.irem, 1)) (hy : y ≠ 0) (hp : pc + 1 = pc')
    (k : own_Got p e below P T (mkF m pc' ls (.int (x % y) :: st))) : own_Got p e below P T (mkF m pc ls (.int y :: .int x :: st)) := by
  subst hp; exact own_go (fun _ q => iremM X hx rfl (hb hby hd) rfl hy q) k
theorem g_ishl (X : Stand p l e R s m args below meth c T locs cells slots) (hx : p.tables.exec = Jvm.exec) (hby : c.code = bytes) {x y : Int32} (hd : decode bytes pc = .ok (.ishl, 1))  (hp : pc + 1 = pc')
    (k : own_Got p e below P T (mkF m pc' ls (.int (x <<< (y &&& 31)) :: st))) : own_Got p e below P T (mkF m pc ls (.int y :: .int x :: st)) := by
  subst hp; exact own_go (fun _ q => XS.ishl X.here hx rfl (hb hby hd) rfl q) k
theorem g_ishr (X : Stand p l e R s m args below meth c T locs cells slots) (hx : p.tables.exec = Jvm.exec) (hby : c.code = bytes) {x y : Int32} (hd : decode bytes pc = .ok (.ishr, 1))  (hp : pc + 1 = pc')
    (k : own_Got p e below P T (mkF m pc' ls (.int (x >>> (y &&& 31)) :: st))) : own_Got p e below P T (mkF m pc ls (.int y :: .int x :: st)) := by
  subst hp; exact own_go (fun _ q => XS.ishr X.here hx rfl (hb hby hd) rfl q) k
theorem g_iushr (X : Stand p l e R s m args below meth c T locs cells slots) (hx : p.tables.exec = Jvm.exec) (hby : c.code = bytes) {x y : Int32} (hd : decode bytes pc = .ok (.iushr, 1))  (hp : pc + 1 = pc')
    (k : own_Got p e below P T (mkF m pc' ls (.int ((x.toUInt32 >>> (y &&& 31).toUInt32).toInt32) :: st))) : own_Got p e below P T (mkF m pc ls (.int y :: .int x :: st)) := by
  subst hp; exact own_go (fun _ q => XS.iushr X.here hx rfl (hb hby hd) rfl q) k
theorem g_ineg (X : Stand p l e R s m args below meth c T locs cells slots) (hx : p.tables.exec = Jvm.exec) (hby : c.code = bytes) {x : Int32} (hd : decode bytes pc = .ok (.ineg, 1))  (hp : pc + 1 = pc')
    (k : own_Got p e below P T (mkF m pc' ls (.int (-x) :: st))) : own_Got p e below P T (mkF m pc ls (.int x :: st)) := by
  subst hp; exact own_go (fun _ q => XS.ineg X.here hx rfl (hb hby hd) rfl q) k
theorem g_i2b (X : Stand p l e R s m args below meth c T locs cells slots) (hx : p.tables.exec = Jvm.exec) (hby : c.code = bytes) {x : Int32} (hd : decode bytes pc = .ok (.i2b, 1))  (hp : pc + 1 = pc')
    (k : own_Got p e below P T (mkF m pc' ls (.int x.toInt8.toInt32 :: st))) : own_Got p e below P T (mkF m pc ls (.int x :: st)) := by
  subst hp; exact own_go (fun _ q => XS.i2b X.here hx rfl (hb hby hd) rfl q) k
theorem g_i2s (X : Stand p l e R s m args below meth c T locs cells slots) (hx : p.tables.exec = Jvm.exec) (hby : c.code = bytes) {x : Int32} (hd : decode bytes pc = .ok (.i2s, 1))  (hp : pc + 1 = pc')
    (k : own_Got p e below P T (mkF m pc' ls (.int x.toInt16.toInt32 :: st))) : own_Got p e below P T (mkF m pc ls (.int x :: st)) := by
  subst hp; exact own_go (fun _ q => XS.i2s X.here hx rfl (hb hby hd) rfl q) k
theorem g_i2c (X : Stand p l e R s m args below meth c T locs cells slots) (hx : p.tables.exec = Jvm.exec) (hby : c.code = bytes) {x : Int32} (hd : decode bytes pc = .ok (.i2c, 1))  (hp : pc + 1 = pc')
    (k : own_Got p e below P T (mkF m pc' ls (.int x.toUInt32.toUInt16.toUInt32.toInt32 :: st))) : own_Got p e below P T (mkF m pc ls (.int x :: st)) := by
  subst hp; exact own_go (fun _ q => XS.i2c X.here hx rfl (hb hby hd) rfl q) k
theorem g_i2l (X : Stand p l e R s m args below meth c T locs cells slots) (hx : p.tables.exec = Jvm.exec) (hby : c.code = bytes) {x : Int32} (hd : decode bytes pc = .ok (.i2l, 1))  (hp : pc + 1 = pc')
    (k : own_Got p e below P T (mkF m pc' ls (.long x.toInt64 :: st))) : own_Got p e below P T (mkF m pc ls (.int x :: st)) := by
  subst hp; exact own_go (fun _ q => XS.i2l X.here hx rfl (hb hby hd) rfl q) k
theorem g_lcmp (X : Stand p l e R s m args below meth c T locs cells slots) (hx : p.tables.exec = Jvm.exec) (hby : c.code = bytes) {x y : Int64} (hd : decode bytes pc = .ok (.lcmp, 1))  (hp : pc + 1 = pc')
    (k : own_Got p e below P T (mkF m pc' ls (.int (lcmpW x y) :: st))) : own_Got p e below P T (mkF m pc ls (.long y :: .long x :: st)) := by
  subst hp; exact own_go (fun _ q => XS.lcmp X.here hx rfl (hb hby hd) rfl q) k
theorem g_iinc (X : Stand p l e R s m args below meth c T locs cells slots) (hx : p.tables.exec = Jvm.exec) (hby : c.code = bytes) {k : Nat} {cst : Int} {x : Int32} (ls' : Array Slot) (hd : decode bytes pc = .ok (.iinc k cst, 3)) (hl : ls[k]? = some (.val (.int x))) (hl' : storeLocals ls k (.int (x + Int32.ofInt cst)) = some ls') (hp : pc + 3 = pc')
    (k : own_Got p e below P T (mkF m pc' ls' (st))) : own_Got p e below P T (mkF m pc ls (st)) := by
  subst hp; exact own_go (fun _ q => XS.iinc X.here hx rfl (hb hby hd) hl hl' q) k
theorem g_dup (X : Stand p l e R s m args below meth c T locs cells slots) (hx : p.tables.exec = Jvm.exec) (hby : c.code = bytes) {x : Value} (hd : decode bytes pc = .ok (.dup, 1)) (hc : x.category = 1) (hp : pc + 1 = pc')
    (k : own_Got p e below P T (mkF m pc' ls (x :: x :: st))) : own_Got p e below P T (mkF m pc ls (x :: st)) := by
  subst hp; exact own_go (fun _ q => XS.dup X.here hx rfl (hb hby hd) rfl hc q) k
theorem g_dupX1 (X : Stand p l e R s m args below meth c T locs cells slots) (hx : p.tables.exec = Jvm.exec) (hby : c.code = bytes) {x y : Value} (hd : decode bytes pc = .ok (.dup_x1, 1)) (hc : x.category = 1) (hc2 : y.category = 1) (hp : pc + 1 = pc')
    (k : own_Got p e below P T (mkF m pc' ls (x :: y :: x :: st))) : own_Got p e below P T (mkF m pc ls (x :: y :: st)) := by
  subst hp; exact own_go (fun _ q => XS.dupX1 X.here hx rfl (hb hby hd) rfl hc hc2 q) k
theorem g_pop (X : Stand p l e R s m args below meth c T locs cells slots) (hx : p.tables.exec = Jvm.exec) (hby : c.code = bytes) {x : Value} (hd : decode bytes pc = .ok (.pop, 1)) (hc : x.category = 1) (hp : pc + 1 = pc')
    (k : own_Got p e below P T (mkF m pc' ls (st))) : own_Got p e below P T (mkF m pc ls (x :: st)) := by
  subst hp; exact own_go (fun _ q => XS.pop X.here hx rfl (hb hby hd) rfl hc q) k
theorem g_dup2 (X : Stand p l e R s m args below meth c T locs cells slots) (hx : p.tables.exec = Jvm.exec) (hby : c.code = bytes) {x y : Value} (hd : decode bytes pc = .ok (.dup2, 1)) (hc : x.category = 1) (hc2 : y.category = 1) (hp : pc + 1 = pc')
    (k : own_Got p e below P T (mkF m pc' ls (x :: y :: x :: y :: st))) : own_Got p e below P T (mkF m pc ls (x :: y :: st)) := by
  subst hp; exact own_go (fun _ q => XT.dup2 X.here hx rfl (hb hby hd) rfl hc hc2 q) k
theorem g_goto (X : Stand p l e R s m args below meth c T locs cells slots) (hx : p.tables.exec = Jvm.exec) (hby : c.code = bytes) {o : Int} (hd : decode bytes pc = .ok (.goto o, 3))  (ho : 0 ≤ (pc : Int) + o) (hp : ((pc : Int) + o).toNat = pc')
    (k : own_Got p e below P T (mkF m pc' ls (st))) : own_Got p e below P T (mkF m pc ls (st)) := by
  exact own_go (fun _ q => XS.goto X.here hx rfl rfl (hb hby hd) ho hp q) k
theorem g_ifT (X : Stand p l e R s m args below meth c T locs cells slots) (hx : p.tables.exec = Jvm.exec) (hby : c.code = bytes) {cd : ClassFile.Cond} {x : Int32} {o : Int} (hd : decode bytes pc = .ok (.ifCond cd o, 3)) (hc : ifCond.holds cd x = true) (ho : 0 ≤ (pc : Int) + o) (hp : ((pc : Int) + o).toNat = pc')
    (k : own_Got p e below P T (mkF m pc' ls (st))) : own_Got p e below P T (mkF m pc ls (.int x :: st)) := by
  exact own_go (fun _ q => XS.ifYes X.here hx rfl rfl (hb hby hd) rfl hc ho hp q) k
theorem g_icT (X : Stand p l e R s m args below meth c T locs cells slots) (hx : p.tables.exec = Jvm.exec) (hby : c.code = bytes) {cd : ClassFile.Cond} {x y : Int32} {o : Int} (hd : decode bytes pc = .ok (.if_icmp cd o, 3)) (hc : if_icmp.holds cd x y = true) (ho : 0 ≤ (pc : Int) + o) (hp : ((pc : Int) + o).toNat = pc')
    (k : own_Got p e below P T (mkF m pc' ls (st))) : own_Got p e below P T (mkF m pc ls (.int y :: .int x :: st)) := by
  exact own_go (fun _ q => XS.icmpYes X.here hx rfl rfl (hb hby hd) rfl hc ho hp q) k
theorem g_inT (X : Stand p l e R s m args below meth c T locs cells slots) (hx : p.tables.exec = Jvm.exec) (hby : c.code = bytes) {o : Int} (hd : decode bytes pc = .ok (.ifnull o, 3))  (ho : 0 ≤ (pc : Int) + o) (hp : ((pc : Int) + o).toNat = pc')
    (k : own_Got p e below P T (mkF m pc' ls (st))) : own_Got p e below P T (mkF m pc ls (.null :: st)) := by
  exact own_go (fun _ q => XS.ifnullYes X.here hx rfl rfl (hb hby hd) rfl ho hp q) k
theorem g_innT (X : Stand p l e R s m args below meth c T locs cells slots) (hx : p.tables.exec = Jvm.exec) (hby : c.code = bytes) {b : Addr} {o : Int} (hd : decode bytes pc = .ok (.ifnonnull o, 3))  (ho : 0 ≤ (pc : Int) + o) (hp : ((pc : Int) + o).toNat = pc')
    (k : own_Got p e below P T (mkF m pc' ls (st))) : own_Got p e below P T (mkF m pc ls (.ref b :: st)) := by
  exact own_go (fun _ q => XS.ifnonnullYes X.here hx rfl rfl (hb hby hd) rfl ho hp q) k
theorem g_ifF (X : Stand p l e R s m args below meth c T locs cells slots) (hx : p.tables.exec = Jvm.exec) (hby : c.code = bytes) {cd : ClassFile.Cond} {o : Int} {x : Int32} (hd : decode bytes pc = .ok (.ifCond cd o, 3)) (hc : ifCond.holds cd x = false) (hp : pc + 3 = pc')
    (k : own_Got p e below P T (mkF m pc' ls (st))) : own_Got p e below P T (mkF m pc ls (.int x :: st)) := by
  subst hp; exact own_go (fun _ q => XS.ifNo X.here hx rfl (hb hby hd) rfl hc q) k
theorem g_icF (X : Stand p l e R s m args below meth c T locs cells slots) (hx : p.tables.exec = Jvm.exec) (hby : c.code = bytes) {cd : ClassFile.Cond} {o : Int} {x y : Int32} (hd : decode bytes pc = .ok (.if_icmp cd o, 3)) (hc : if_icmp.holds cd x y = false) (hp : pc + 3 = pc')
    (k : own_Got p e below P T (mkF m pc' ls (st))) : own_Got p e below P T (mkF m pc ls (.int y :: .int x :: st)) := by
  subst hp; exact own_go (fun _ q => XS.icmpNo X.here hx rfl (hb hby hd) rfl hc q) k
theorem g_inF (X : Stand p l e R s m args below meth c T locs cells slots) (hx : p.tables.exec = Jvm.exec) (hby : c.code = bytes) {o : Int} {b : Addr} (hd : decode bytes pc = .ok (.ifnull o, 3))  (hp : pc + 3 = pc')
    (k : own_Got p e below P T (mkF m pc' ls (st))) : own_Got p e below P T (mkF m pc ls (.ref b :: st)) := by
  subst hp; exact own_go (fun _ q => XS.ifnullNo X.here hx rfl (hb hby hd) rfl q) k
theorem g_innF (X : Stand p l e R s m args below meth c T locs cells slots) (hx : p.tables.exec = Jvm.exec) (hby : c.code = bytes) {o : Int} (hd : decode bytes pc = .ok (.ifnonnull o, 3))  (hp : pc + 3 = pc')
    (k : own_Got p e below P T (mkF m pc' ls (st))) : own_Got p e below P T (mkF m pc ls (.null :: st)) := by
  subst hp; exact own_go (fun _ q => XS.ifnonnullNo X.here hx rfl (hb hby hd) rfl q) k
theorem g_acmp (X : Stand p l e R s m args below meth c T locs cells slots) (hx : p.tables.exec = Jvm.exec) (hby : c.code = bytes) {cd : ACond} {x y : Value} {o : Int} (same : Bool) (hd : decode bytes pc = .ok (.if_acmp cd o, 3)) (h1 : x.isRef = true) (h2 : y.isRef = true) (hq : decide (x = y) = same) (ho : 0 ≤ (pc : Int) + o) (hp : pc' = if acV cd same = true then ((pc : Int) + o).toNat else pc + 3)
    (k : own_Got p e below P T (mkF m pc' ls st)) : own_Got p e below P T (mkF m pc ls (y :: x :: st)) :=
  own_go (fun _ q => Jvm.RoadKit.acmp X hx rfl h1 h2 rfl (hb hby hd) rfl hq ho hp q) k
theorem g_ldcI (X : Stand p l e R s m args below meth c T locs cells slots) (hx : p.tables.exec = Jvm.exec) (hby : c.code = bytes) (hZ : Z.Warmed39 s.vm) {own : String} {index : Nat} {v : Int32} (hown : s.vm.findClass own = some m.cls) (w : (Cond.constant own index v).before a0 Z = true) (hd : decode bytes pc = .ok (.ldc index, 2)) (hp : pc + 2 = pc')
    (k : own_Got p e below P T (mkF m pc' ls (.int v :: st))) : own_Got p e below P T (mkF m pc ls st) := by
  subst hp; exact own_go (X.ldcInt hx hown (mvT hZ w) rfl (hb hby hd)) k
theorem g_ldc2D (X : Stand p l e R s m args below meth c T locs cells slots) (hx : p.tables.exec = Jvm.exec) (hby : c.code = bytes) (hZ : Z.Warmed39 s.vm) {own : String} {index : Nat} {v : UInt64} (hown : s.vm.findClass own = some m.cls) (w : (Cond.constantDouble own index v).before a0 Z = true) (hd : decode bytes pc = .ok (.ldc2_w index, 3)) (hp : pc + 3 = pc')
    (k : own_Got p e below P T (mkF m pc' ls (.double v :: st))) : own_Got p e below P T (mkF m pc ls st) := by
  subst hp; exact own_go (X.ldc2DoubleC hx hown (mvT hZ w) rfl (hb hby hd)) k
theorem g_alen (X : Stand p l e R s m args below meth c T locs cells slots) (hx : p.tables.exec = Jvm.exec) (hby : c.code = bytes) (hZ : Z.Warmed39 s.vm) (eT : T.heap = h) {a : Addr} {kk : ClassId} {ty : FieldType} {n : Int32} {vs : List Value} {d : Value} (F : Arv Z h a kk ty n vs d) (hd : decode bytes pc = .ok (.arraylength, 1)) (hp : pc + 1 = pc')
    (k : own_Got p e below P T (mkF m pc' ls (.int n :: st))) : own_Got p e below P T (mkF m pc ls (.ref a :: st)) := by
  subst hp
  obtain ⟨cl, Ar, -, S, N, -, -⟩ := F
  refine own_go (fun t q => X.arraylength hx (by rw [eT]; exact Ar.1) (State.isArrayOf_alike hZ.alike Ar.2.1) (g := mkF m pc ls (.ref a :: st)) rfl rfl (hb hby hd) t q) ?_
  rw [len_of S N]; exact k
theorem g_iaload (X : Stand p l e R s m args below meth c T locs cells slots) (hx : p.tables.exec = Jvm.exec) (hby : c.code = bytes) (hZ : Z.Warmed39 s.vm) (eT : T.heap = h) {a : Addr} {kk : ClassId} {n : Int32} {vs : List Value} {d v : Value} {j : Int32} (F : Arv Z h a kk .int n vs d) (hj : ¬ j < 0 ∧ j < n) (hv : vs.getD j.toNatClampNeg d = v) (hd : decode bytes pc = .ok (.iaload, 1)) (hp : pc + 1 = pc')
    (k : own_Got p e below P T (mkF m pc' ls (v :: st))) : own_Got p e below P T (mkF m pc ls (.int j :: .ref a :: st)) := by
  subst hp
  obtain ⟨cl, Ar, -, S, N, H, -⟩ := F
  exact own_go (fun t q => X.iaload hx (by rw [eT]; exact Ar.1) (State.isArrayOf_alike hZ.alike Ar.2.1) Ar.2.2 (inb_of S hj) (H.at (inb_of S hj) hv) (g := mkF m pc ls (.int j :: .ref a :: st)) rfl rfl (hb hby hd) t q) k
theorem g_caload (X : Stand p l e R s m args below meth c T locs cells slots) (hx : p.tables.exec = Jvm.exec) (hby : c.code = bytes) (hZ : Z.Warmed39 s.vm) (eT : T.heap = h) {a : Addr} {kk : ClassId} {n : Int32} {vs : List Value} {d v : Value} {j : Int32} (F : Arv Z h a kk .char n vs d) (hj : ¬ j < 0 ∧ j < n) (hv : vs.getD j.toNatClampNeg d = v) (hd : decode bytes pc = .ok (.caload, 1)) (hp : pc + 1 = pc')
    (k : own_Got p e below P T (mkF m pc' ls (v :: st))) : own_Got p e below P T (mkF m pc ls (.int j :: .ref a :: st)) := by
  subst hp
  obtain ⟨cl, Ar, -, S, N, H, -⟩ := F
  exact own_go (fun t q => X.caload hx (by rw [eT]; exact Ar.1) (State.isArrayOf_alike hZ.alike Ar.2.1) Ar.2.2 (inb_of S hj) (H.at (inb_of S hj) hv) (g := mkF m pc ls (.int j :: .ref a :: st)) rfl rfl (hb hby hd) t q) k
theorem g_laload (X : Stand p l e R s m args below meth c T locs cells slots) (hx : p.tables.exec = Jvm.exec) (hby : c.code = bytes) (hZ : Z.Warmed39 s.vm) (eT : T.heap = h) {a : Addr} {kk : ClassId} {n : Int32} {vs : List Value} {d v : Value} {j : Int32} (F : Arv Z h a kk .long n vs d) (hj : ¬ j < 0 ∧ j < n) (hv : vs.getD j.toNatClampNeg d = v) (hd : decode bytes pc = .ok (.laload, 1)) (hp : pc + 1 = pc')
    (k : own_Got p e below P T (mkF m pc' ls (v :: st))) : own_Got p e below P T (mkF m pc ls (.int j :: .ref a :: st)) := by
  subst hp
  obtain ⟨cl, Ar, -, S, N, H, -⟩ := F
  exact own_go (fun t q => X.laload hx (by rw [eT]; exact Ar.1) (State.isArrayOf_alike hZ.alike Ar.2.1) Ar.2.2 (inb_of S hj) (H.at (inb_of S hj) hv) (g := mkF m pc ls (.int j :: .ref a :: st)) rfl rfl (hb hby hd) t q) k
theorem g_baload (X : Stand p l e R s m args below meth c T locs cells slots) (hx : p.tables.exec = Jvm.exec) (hby : c.code = bytes) (hZ : Z.Warmed39 s.vm) (eT : T.heap = h) {a : Addr} {kk : ClassId} {n : Int32} {vs : List Value} {d v : Value} {j : Int32} (F : Arv Z h a kk .byte n vs d) (hj : ¬ j < 0 ∧ j < n) (hv : vs.getD j.toNatClampNeg d = v) (hd : decode bytes pc = .ok (.baload, 1)) (hp : pc + 1 = pc')
    (k : own_Got p e below P T (mkF m pc' ls (v :: st))) : own_Got p e below P T (mkF m pc ls (.int j :: .ref a :: st)) := by
  subst hp
  obtain ⟨cl, Ar, -, S, N, H, -⟩ := F
  exact own_go (fun t q => X.baloadBytes hx (by rw [eT]; exact Ar.1) (State.isArrayOf_alike hZ.alike Ar.2.1) Ar.2.2 (inb_of S hj) (H.at (inb_of S hj) hv) (g := mkF m pc ls (.int j :: .ref a :: st)) rfl rfl (hb hby hd) t q) k
theorem g_daload (X : Stand p l e R s m args below meth c T locs cells slots) (hx : p.tables.exec = Jvm.exec) (hby : c.code = bytes) (hZ : Z.Warmed39 s.vm) (eT : T.heap = h) {a : Addr} {kk : ClassId} {n : Int32} {vs : List Value} {d v : Value} {j : Int32} (F : Arv Z h a kk .double n vs d) (hj : ¬ j < 0 ∧ j < n) (hv : vs.getD j.toNatClampNeg d = v) (hd : decode bytes pc = .ok (.daload, 1)) (hp : pc + 1 = pc')
    (k : own_Got p e below P T (mkF m pc' ls (v :: st))) : own_Got p e below P T (mkF m pc ls (.int j :: .ref a :: st)) := by
  subst hp
  obtain ⟨cl, Ar, -, S, N, H, -⟩ := F
  exact own_go (fun t q => X.daload hx (by rw [eT]; exact Ar.1) (State.isArrayOf_alike hZ.alike Ar.2.1) Ar.2.2 (inb_of S hj) (H.at (inb_of S hj) hv) (g := mkF m pc ls (.int j :: .ref a :: st)) rfl rfl (hb hby hd) t q) k
theorem g_aaload (X : Stand p l e R s m args below meth c T locs cells slots) (hx : p.tables.exec = Jvm.exec) (hby : c.code = bytes) (hZ : Z.Warmed39 s.vm) (eT : T.heap = h) {a : Addr} {kk : ClassId} {ty : FieldType} {n : Int32} {vs : List Value} {d v : Value} {j : Int32} (F : Arv Z h a kk ty n vs d) (ht : ty.isReference = true) (hj : ¬ j < 0 ∧ j < n) (hv : vs.getD j.toNatClampNeg d = v) (hd : decode bytes pc = .ok (.aaload, 1)) (hp : pc + 1 = pc')
    (k : own_Got p e below P T (mkF m pc' ls (v :: st))) : own_Got p e below P T (mkF m pc ls (.int j :: .ref a :: st)) := by
  subst hp
  obtain ⟨cl, Ar, -, S, N, H, -⟩ := F
  exact own_go (fun t q => X.aaload hx (by rw [eT]; exact Ar.1) (State.isArrayOf_alike hZ.alike Ar.2.1) ht Ar.2.2 (inb_of S hj) (H.at (inb_of S hj) hv) (g := mkF m pc ls (.int j :: .ref a :: st)) rfl rfl (hb hby hd) t q) k
theorem a_iastore (X : Stand p l e R s m args below meth c T locs cells slots) (hx : p.tables.exec = Jvm.exec) (hby : c.code = bytes) (hZ : Z.Warmed39 s.vm) (eT : T.heap = h) {a : Addr} {kk : ClassId} {n : Int32} {vs : List Value} {d : Value} {j : Int32} (x : Int32) (i : Nat) (F : Arv Z h a kk .int n vs d) (hj : ¬ j < 0 ∧ j < n) (hi : j.toNatClampNeg = i) (hl : i < vs.length) (hd : decode bytes pc = .ok (.iastore, 1)) :
    ∃ T' h', Stand p l e R s m args below meth c T' (locs ++ [⟨a, j.toNatClampNeg⟩]) cells slots ∧ T'.heap = h' ∧ Wr h h' a j.toNatClampNeg (.int x) ∧ Arv Z h' a kk .int n (vs.set i (.int x)) d ∧ ∀ t, Steps p.tables e below (T'.setTop (mkF m (pc + 1) ls st)) t → Steps p.tables e below (T.setTop (mkF m pc ls (.int x :: .int j :: .ref a :: st))) t := by
  obtain ⟨cl, Ar, q1, S, N, H, Gf⟩ := F
  obtain ⟨T', h', X', e', W, k⟩ := stI X hx hZ eT Ar (j := j) (inb_of S hj) (g := mkF m pc ls (.int x :: .int j :: .ref a :: st)) rfl rfl (hb hby hd)
  exact ⟨T', h', X', e', W, Arv.set Ar q1 S N H Gf (rfl) W i hi hl, k⟩
theorem a_castore (X : Stand p l e R s m args below meth c T locs cells slots) (hx : p.tables.exec = Jvm.exec) (hby : c.code = bytes) (hZ : Z.Warmed39 s.vm) (eT : T.heap = h) {a : Addr} {kk : ClassId} {n : Int32} {vs : List Value} {d : Value} {j : Int32} (x : Int32) (i : Nat) (F : Arv Z h a kk .char n vs d) (hj : ¬ j < 0 ∧ j < n) (hi : j.toNatClampNeg = i) (hl : i < vs.length) (hd : decode bytes pc = .ok (.castore, 1)) :
    ∃ T' h', Stand p l e R s m args below meth c T' (locs ++ [⟨a, j.toNatClampNeg⟩]) cells slots ∧ T'.heap = h' ∧ Wr h h' a j.toNatClampNeg (.int (nar .char x)) ∧ Arv Z h' a kk .char n (vs.set i (.int (nar .char x))) d ∧ ∀ t, Steps p.tables e below (T'.setTop (mkF m (pc + 1) ls st)) t → Steps p.tables e below (T.setTop (mkF m pc ls (.int x :: .int j :: .ref a :: st))) t := by
  obtain ⟨cl, Ar, q1, S, N, H, Gf⟩ := F
  obtain ⟨T', h', X', e', W, k⟩ := stC X hx hZ eT Ar (j := j) (inb_of S hj) (g := mkF m pc ls (.int x :: .int j :: .ref a :: st)) rfl rfl (hb hby hd)
  exact ⟨T', h', X', e', W, Arv.set Ar q1 S N H Gf (fits_nar_char _) W i hi hl, k⟩
theorem a_bastore (X : Stand p l e R s m args below meth c T locs cells slots) (hx : p.tables.exec = Jvm.exec) (hby : c.code = bytes) (hZ : Z.Warmed39 s.vm) (eT : T.heap = h) {a : Addr} {kk : ClassId} {n : Int32} {vs : List Value} {d : Value} {j : Int32} (x : Int32) (i : Nat) (F : Arv Z h a kk .byte n vs d) (hj : ¬ j < 0 ∧ j < n) (hi : j.toNatClampNeg = i) (hl : i < vs.length) (hd : decode bytes pc = .ok (.bastore, 1)) :
    ∃ T' h', Stand p l e R s m args below meth c T' (locs ++ [⟨a, j.toNatClampNeg⟩]) cells slots ∧ T'.heap = h' ∧ Wr h h' a j.toNatClampNeg (.int (nar .byte x)) ∧ Arv Z h' a kk .byte n (vs.set i (.int (nar .byte x))) d ∧ ∀ t, Steps p.tables e below (T'.setTop (mkF m (pc + 1) ls st)) t → Steps p.tables e below (T.setTop (mkF m pc ls (.int x :: .int j :: .ref a :: st))) t := by
  obtain ⟨cl, Ar, q1, S, N, H, Gf⟩ := F
  obtain ⟨T', h', X', e', W, k⟩ := stB X hx hZ eT Ar (j := j) (inb_of S hj) (g := mkF m pc ls (.int x :: .int j :: .ref a :: st)) rfl rfl (hb hby hd)
  exact ⟨T', h', X', e', W, Arv.set Ar q1 S N H Gf (fits_nar_byte _) W i hi hl, k⟩
theorem a_lastore (X : Stand p l e R s m args below meth c T locs cells slots) (hx : p.tables.exec = Jvm.exec) (hby : c.code = bytes) (hZ : Z.Warmed39 s.vm) (eT : T.heap = h) {a : Addr} {kk : ClassId} {n : Int32} {vs : List Value} {d : Value} {j : Int32} (x : Int64) (i : Nat) (F : Arv Z h a kk .long n vs d) (hj : ¬ j < 0 ∧ j < n) (hi : j.toNatClampNeg = i) (hl : i < vs.length) (hd : decode bytes pc = .ok (.lastore, 1)) :
    ∃ T' h', Stand p l e R s m args below meth c T' (locs ++ [⟨a, j.toNatClampNeg⟩]) cells slots ∧ T'.heap = h' ∧ Wr h h' a j.toNatClampNeg (.long x) ∧ Arv Z h' a kk .long n (vs.set i (.long x)) d ∧ ∀ t, Steps p.tables e below (T'.setTop (mkF m (pc + 1) ls st)) t → Steps p.tables e below (T.setTop (mkF m pc ls (.long x :: .int j :: .ref a :: st))) t := by
  obtain ⟨cl, Ar, q1, S, N, H, Gf⟩ := F
  obtain ⟨T', h', X', e', W, k⟩ := stJ X hx hZ eT Ar (j := j) (inb_of S hj) (g := mkF m pc ls (.long x :: .int j :: .ref a :: st)) rfl rfl (hb hby hd)
  exact ⟨T', h', X', e', W, Arv.set Ar q1 S N H Gf (rfl) W i hi hl, k⟩
theorem a_dastore (X : Stand p l e R s m args below meth c T locs cells slots) (hx : p.tables.exec = Jvm.exec) (hby : c.code = bytes) (hZ : Z.Warmed39 s.vm) (eT : T.heap = h) {a : Addr} {kk : ClassId} {n : Int32} {vs : List Value} {d : Value} {j : Int32} (x : UInt64) (i : Nat) (F : Arv Z h a kk .double n vs d) (hj : ¬ j < 0 ∧ j < n) (hi : j.toNatClampNeg = i) (hl : i < vs.length) (hd : decode bytes pc = .ok (.dastore, 1)) :
    ∃ T' h', Stand p l e R s m args below meth c T' (locs ++ [⟨a, j.toNatClampNeg⟩]) cells slots ∧ T'.heap = h' ∧ Wr h h' a j.toNatClampNeg (.double x) ∧ Arv Z h' a kk .double n (vs.set i (.double x)) d ∧ ∀ t, Steps p.tables e below (T'.setTop (mkF m (pc + 1) ls st)) t → Steps p.tables e below (T.setTop (mkF m pc ls (.double x :: .int j :: .ref a :: st))) t := by
  obtain ⟨cl, Ar, q1, S, N, H, Gf⟩ := F
  obtain ⟨T', h', X', e', W, k⟩ := stD X hx hZ eT Ar (j := j) (inb_of S hj) (g := mkF m pc ls (.double x :: .int j :: .ref a :: st)) rfl rfl (hb hby hd)
  exact ⟨T', h', X', e', W, Arv.set Ar q1 S N H Gf (rfl) W i hi hl, k⟩
theorem a_aastore (X : Stand p l e R s m args below meth c T locs cells slots) (hx : p.tables.exec = Jvm.exec) (hby : c.code = bytes) (hZ : Z.Warmed39 s.vm) (eT : T.heap = h) {a b : Addr} {kk : ClassId} {Cn : String} {n : Int32} {vs : List Value} {d : Value} {j : Int32} (i : Nat) (F : Arv Z h a kk (.object Cn) n vs d) (O : Ovr Z kk Cn) (I : Ins Z h b Cn true) (hj : ¬ j < 0 ∧ j < n) (hi : j.toNatClampNeg = i) (hl : i < vs.length) (hd : decode bytes pc = .ok (.aastore, 1)) :
    ∃ T' h', Stand p l e R s m args below meth c T' (locs ++ [⟨a, j.toNatClampNeg⟩]) cells slots ∧ T'.heap = h' ∧ Wr h h' a j.toNatClampNeg (.ref b) ∧ Arv Z h' a kk (.object Cn) n (vs.set i (.ref b)) d ∧ ∀ t, Steps p.tables e below (T'.setTop (mkF m (pc + 1) ls st)) t → Steps p.tables e below (T.setTop (mkF m pc ls (.ref b :: .int j :: .ref a :: st))) t := by
  obtain ⟨cl, Ar, q1, S, N, H, Gf⟩ := F
  obtain ⟨T', h', X', e', W, k⟩ := stR X hx hZ eT Ar (j := j) (inb_of S hj) rfl (Sto.ofV Ar q1 O I) (g := mkF m pc ls (.ref b :: .int j :: .ref a :: st)) rfl rfl (hb hby hd)
  exact ⟨T', h', X', e', W, Arv.set Ar q1 S N H Gf rfl W i hi hl, k⟩
theorem own_stakeep {C n d : String} {v : Value} {K : String} {a : Addr} (F : Sta Z h C n d v) (k : Keep h h' [a]) (E : Exa Z h a K) : Sta Z h' C n d v := by
  obtain ⟨cf, i, kk, f, st, cell, h1, h2, h3, h4, h5, h6, h7⟩ := F
  refine ⟨cf, i, kk, f, st, cell, h1, h2, h3, h4, k.2.1 _ _ h5 (fun q => ?_), h6, h7⟩
  obtain ⟨c2, k2, g1, -, -, g4, -⟩ := E
  cases List.mem_singleton.mp q
  cases h5.symm.trans g1
  rw [g4] at h6; cases h6
theorem own_stakeep0 {C n d : String} {v : Value} (F : Sta Z h C n d v) (k : Keep h h' []) : Sta Z h' C n d v := by
  obtain ⟨cf, i, kk, f, st, cell, h1, h2, h3, h4, h5, h6, h7⟩ := F
  exact ⟨cf, i, kk, f, st, cell, h1, h2, h3, h4, k.2.1 _ _ h5 nin0, h6, h7⟩
theorem own_eqI {t : Term} {first : State} {o : Option Outcome} {idx : List Nat} {z : Int32} (hq : (Cond.eq t (.int z)).value args first o s idx = some true) : t.eval args first o idx s = some (.int z) := by
  obtain ⟨x, y, hx, hy, kk, -⟩ := cmp_v (Or.inl hq)
  have hy' : y = .int z := Option.some.inj (hy.symm.trans rfl)
  subst hy'
  cases x with
  | int x => simp only [Cond.value, hx, hy] at hq; simp at hq; rw [hx, hq]
  | _ => simp [Kin, Value.isRef] at kk
theorem own_eqR {t u : Term} {first : State} {o : Option Outcome} {idx : List Nat} {b : Addr} (hq : (Cond.eq t u).value args first o s idx = some true) (hu : u.eval args first o idx s = some (.ref b)) : t.eval args first o idx s = some (.ref b) := by
  obtain ⟨x, y, hx, hy, kk, kk2⟩ := cmp_v (Or.inl hq)
  cases hu.symm.trans hy
  have hr : x.isRef = true := kk2.2
  have := gotT (eq_R hx hu hr rfl) hq
  rw [hx, this]
theorem g_i2d (X : Stand p l e R s m args below meth c T locs cells slots) (hx : p.tables.exec = Jvm.exec) (hby : c.code = bytes) {x : Int32} (hd : decode bytes pc = .ok (.i2d, 1))  (hp : pc + 1 = pc')
    (k : own_Got p e below P T (mkF m pc' ls (.double (FP.i2d x) :: st))) : own_Got p e below P T (mkF m pc ls (.int x :: st)) := by
  subst hp; exact own_go (fun _ q => XS.i2dS X.here hx rfl (hb hby hd) rfl rfl q) k
theorem g_dcmp (X : Stand p l e R s m args below meth c T locs cells slots) (hx : p.tables.exec = Jvm.exec) (hby : c.code = bytes) {o : CmpOp} {x y : UInt64} (hd : decode bytes pc = .ok (.dcmp o, 1))  (hp : pc + 1 = pc')
    (k : own_Got p e below P T (mkF m pc' ls (.int (cmpValue (FP.dcmp x y) o) :: st))) : own_Got p e below P T (mkF m pc ls (.double y :: .double x :: st)) := by
  subst hp; exact own_go (fun _ q => XS.dcmpS X.here hx rfl (hb hby hd) rfl rfl q) k
theorem g_dconst0 (X : Stand p l e R s m args below meth c T locs cells slots) (hx : p.tables.exec = Jvm.exec) (hby : c.code = bytes) (z : UInt64) (hd : decode bytes pc = .ok (.dconst 0, 1)) (hz : FP.dconst0 = z) (hp : pc + 1 = pc')
    (k : own_Got p e below P T (mkF m pc' ls (.double z :: st))) : own_Got p e below P T (mkF m pc ls (st)) := by
  subst hp; exact own_go (fun _ q => XS.dconst0 X.here hx rfl (hb hby hd) hz q) k
theorem g_dadd (X : Stand p l e R s m args below meth c T locs cells slots) (hx : p.tables.exec = Jvm.exec) (hby : c.code = bytes) {x y : UInt64} (hd : decode bytes pc = .ok (.dadd, 1)) (hn : Jvm.Free.Fl.NoNaN64 (FP.dadd x y)) (hp : pc + 1 = pc')
    (k : own_Got p e below P T (mkF m pc' ls (.double (FP.dadd x y) :: st))) : own_Got p e below P T (mkF m pc ls (.double y :: .double x :: st)) := by
  subst hp; exact own_go (fun _ q => XS.daddS X.here hx rfl (hb hby hd) rfl hn rfl q) k
theorem g_dsub (X : Stand p l e R s m args below meth c T locs cells slots) (hx : p.tables.exec = Jvm.exec) (hby : c.code = bytes) {x y : UInt64} (hd : decode bytes pc = .ok (.dsub, 1)) (hn : Jvm.Free.Fl.NoNaN64 (FP.dsub x y)) (hp : pc + 1 = pc')
    (k : own_Got p e below P T (mkF m pc' ls (.double (FP.dsub x y) :: st))) : own_Got p e below P T (mkF m pc ls (.double y :: .double x :: st)) := by
  subst hp; exact own_go (fun _ q => XS.dsubS X.here hx rfl (hb hby hd) rfl hn rfl q) k
theorem g_dmul (X : Stand p l e R s m args below meth c T locs cells slots) (hx : p.tables.exec = Jvm.exec) (hby : c.code = bytes) {x y : UInt64} (hd : decode bytes pc = .ok (.dmul, 1)) (hn : Jvm.Free.Fl.NoNaN64 (FP.dmul x y)) (hp : pc + 1 = pc')
    (k : own_Got p e below P T (mkF m pc' ls (.double (FP.dmul x y) :: st))) : own_Got p e below P T (mkF m pc ls (.double y :: .double x :: st)) := by
  subst hp; exact own_go (fun _ q => XS.dmulS X.here hx rfl (hb hby hd) rfl hn rfl q) k
theorem g_ddiv (X : Stand p l e R s m args below meth c T locs cells slots) (hx : p.tables.exec = Jvm.exec) (hby : c.code = bytes) {x y : UInt64} (hd : decode bytes pc = .ok (.ddiv, 1)) (hn : Jvm.Free.Fl.NoNaN64 (FP.ddiv x y)) (hp : pc + 1 = pc')
    (k : own_Got p e below P T (mkF m pc' ls (.double (FP.ddiv x y) :: st))) : own_Got p e below P T (mkF m pc ls (.double y :: .double x :: st)) := by
  subst hp; exact own_go (fun _ q => XS.ddivS X.here hx rfl (hb hby hd) rfl hn rfl q) k
theorem own_narR {t : FieldType} {w : Value} (ht : t.isReference = true) (hw : w.isRef = true) : narrow t w = w := by rcases ref_cases hw with rfl | ⟨a, rfl⟩ <;> cases t <;> first | rfl | (cases ht)
theorem own_fitR {t : FieldType} {w : Value} (ht : t.isReference = true) (hw : w.isRef = true) : fits t w = true := by rcases ref_cases hw with rfl | ⟨a, rfl⟩ <;> cases t <;> first | rfl | (cases ht)
theorem own_nb (x : Int32) : nar .byte (x.toInt8.toInt32) = x.toInt8.toInt32 := by
  show (x.toInt8.toInt32).toInt8.toInt32 = x.toInt8.toInt32
  simp
theorem own_nc (x : Int32) : nar .char (x.toUInt32.toUInt16.toUInt32.toInt32) = x.toUInt32.toUInt16.toUInt32.toInt32 := by
  show (x.toUInt32.toUInt16.toUInt32.toInt32).toUInt32.toUInt16.toUInt32.toInt32 = _
  have q : ∀ u : UInt16, u.toUInt32.toInt32.toUInt32.toUInt16 = u := fun u => by simp
  rw [q]
end OwnKit
theorem d_pw0_0 : decode prog_35_method_8_code 0 = .ok (.iload_n 2, 1) := by decide +kernel
theorem d_pw0_1 : decode prog_35_method_8_code 1 = .ok (.newarray .long, 2) := by decide +kernel
theorem d_pw0_3 : decode prog_35_method_8_code 3 = .ok (.astore_n 3, 1) := by decide +kernel
theorem d_pw0_4 : decode prog_35_method_8_code 4 = .ok (.lconst 1, 1) := by decide +kernel
theorem d_pw0_5 : decode prog_35_method_8_code 5 = .ok (.lstore 4, 2) := by decide +kernel
theorem d_pw0_7 : decode prog_35_method_8_code 7 = .ok (.iconst 0, 1) := by decide +kernel
theorem d_pw0_8 : decode prog_35_method_8_code 8 = .ok (.istore 6, 2) := by decide +kernel
theorem d_pw0_10 : decode prog_35_method_8_code 10 = .ok (.iload 6, 2) := by decide +kernel
theorem d_pw0_12 : decode prog_35_method_8_code 12 = .ok (.iload_n 2, 1) := by decide +kernel
theorem d_pw0_13 : decode prog_35_method_8_code 13 = .ok (.if_icmp .ge 21, 3) := by decide +kernel
theorem d_pw0_34 : decode prog_35_method_8_code 34 = .ok (.aload_n 3, 1) := by decide +kernel
theorem d_pw0_35 : decode prog_35_method_8_code 35 = .ok (.areturn, 1) := by decide +kernel
theorem pn0 : plainName "com/example/markov_lumper/markovlumper/decimal/Scaling" = true := by first | (simp [plainName, overriddenIn]; done) | decide +kernel
theorem ef_pw0 (m : MethodId) (x0 : Int64) : entryFrame m #[(.long x0), (.int (0 : Int32))] 7 = mkF m 0 #[.val (.long x0), .second, .val (.int (0 : Int32)), .unset, .unset, .unset, .unset] [] := by first | (simp [entryFrame, mkF, argsToLocals, Value.category]; done) | rfl
def Q_pw0 (Z : State) (x0 : Int64) (h0 : Heap) (n0 : Nat) (v : Option Value) (h : Heap) (L : List Loc) : Prop := ∃ (b : Addr), ∃ (kk : ClassId), v = some (.ref b) ∧ Fr n0 L ∧ Keep h0 h [] ∧ h0.size ≤ b ∧ Arv Z h b kk .long (0 : Int32) [] (.long (0 : Int64))
set_option maxRecDepth 65536 in
set_option maxHeartbeats 40000000 in
theorem rm_pw0 (l : Launch) (Z : State) (a0 : Array Value) (hw : ∀ d ∈ tables_1, d.before a0 Z = true) (ws : List Jvm.Cond) (x0 : Int64) (h0 : Heap) (n0 : Nat) (Z0 : n0 ≤ h0.size) :
    MetFree l (⟨"com/example/markov_lumper/markovlumper/decimal/Scaling", "powers", "(JI)[J"⟩ : MethodName) (head1 (Jvm.Cond.code (⟨"com/example/markov_lumper/markovlumper/decimal/Scaling", "powers", "(JI)[J"⟩ : MethodName) prog_35_method_8_code 7 (some (.array .long)) :: ws) ({ frames := 0, cells := 1, slots := 0, locals := 0 } : Room)) (fun a U => a = #[(.long x0), (.int (0 : Int32))] ∧ Z.Warmed39 U.vm ∧ U.heap = h0) (fun _ _ _ _ _ => True) (fun _ U o U' => ∃ v L, o = .returned v ∧ Q_pw0 Z x0 h0 n0 v U'.heap L ∧ FrameEnd U o U' L ({ frames := 0, cells := 1, slots := 0, locals := 0 } : Room).cells ({ frames := 0, cells := 1, slots := 0, locals := 0 } : Room).slots) := by
  refine MetFree.of_bodySF (plainFor_of_name pn0) hisR ?_
  intro p e s m args below meth c s₁ Bd hml0 hP hK
  obtain ⟨rfl, hZ, hh⟩ := hP
  have hx := Bd.exec
  have hby := Bd.bytes
  have hml : c.maxLocals = 7 := hml0
  have hown : s.vm.findClass "com/example/markov_lumper/markovlumper/decimal/Scaling" = some m.cls := findClass_of_methodNamed Bd.named
  have hnm := (name_of_methodNamed Bd.named Bd.method).1
  have hlk := Bd.notSynchronized
  have hrt := Bd.returns
  have X0 : Stand p l e ({ frames := 0, cells := 1, slots := 0, locals := 0 } : Room) s m #[(.long x0), (.int (0 : Int32))] below meth c s₁ [] 0 0 := Stand.of_body Bd
  have e0 : s₁.heap = h0 := by rw [← hh, Bd.state]; rfl
  have N0 := Fr.nil n0
  refine own_cast (P := own_End s (Q_pw0 Z x0 h0 n0) ({ frames := 0, cells := 1, slots := 0, locals := 0 } : Room).cells ({ frames := 0, cells := 1, slots := 0, locals := 0 } : Room).slots) (ef_pw0 m x0) ?_
  refine g_iloadN X0 hx hby d_pw0_0 rfl (rfl : 0 + 1 = 1) ?_
  obtain ⟨T1, h1, k1, X1, e1, E1, A1, B1, st1⟩ := newPE X0 hx hZ (hw _ (List.mem_of_getElem? (i := 4) rfl)) e0 (g := (mkF m 1 #[.val (.long x0), .second, .val (.int (0 : Int32)), .unset, .unset, .unset, .unset] [(.int (0 : Int32))])) rfl (hb hby d_pw0_1) rfl (by decide) (cap := 0) (by decide) (by decide) (by decide) (by decide) (ad := "[J") (by decide +kernel)
  obtain ⟨b1, g1⟩ : ∃ z, z = h0.size := ⟨_, rfl⟩
  rw [← g1] at A1 B1 st1
  have Z1 : n0 ≤ h1.size := Nat.le_trans Z0 E1.1
  have K1 : Keep h0 h1 [] := (Keep.refl h0 []).ext E1
  have ge1 : n0 ≤ b1 := Nat.le_trans Z0 (Nat.le_of_eq g1.symm)
  have sz1 : h0.size ≤ b1 := Nat.le_trans (Keep.refl h0 []).1 (Nat.le_of_eq g1.symm)
  have V1 : Arv Z h1 b1 k1 .long (0 : Int32) [] (.long (0 : Int64)) := (Arv.new A1 (by decide)).pad (pad_rep [] _ 0)
  refine own_go st1 ?_
  show own_Got p e below _ T1 (mkF m 3 #[.val (.long x0), .second, .val (.int (0 : Int32)), .unset, .unset, .unset, .unset] [(.ref b1)])
  refine g_astoreN X1 hx hby #[.val (.long x0), .second, .val (.int (0 : Int32)), .val (.ref b1), .unset, .unset, .unset] d_pw0_3 rfl rfl (rfl : 3 + 1 = 4) ?_
  refine g_lconst X1 hx hby (1 : Int64) d_pw0_4 (by decide) (rfl : 4 + 1 = 5) ?_
  refine g_lstore X1 hx hby #[.val (.long x0), .second, .val (.int (0 : Int32)), .val (.ref b1), .val (.long (1 : Int64)), .second, .unset] d_pw0_5 rfl (rfl : 5 + 2 = 7) ?_
  refine g_iconst X1 hx hby (0 : Int32) d_pw0_7 (by decide) (rfl : 7 + 1 = 8) ?_
  refine g_istore X1 hx hby #[.val (.long x0), .second, .val (.int (0 : Int32)), .val (.ref b1), .val (.long (1 : Int64)), .second, .val (.int (0 : Int32))] d_pw0_8 rfl (rfl : 8 + 2 = 10) ?_
  refine g_iload X1 hx hby d_pw0_10 rfl (rfl : 10 + 2 = 12) ?_
  refine g_iloadN X1 hx hby d_pw0_12 rfl (rfl : 12 + 1 = 13) ?_
  refine g_icT X1 hx hby d_pw0_13 (flt (by decide : ¬ ((0 : Int32) < (0 : Int32)))).2.1 (by decide) (pc' := 34) (by decide) ?_
  refine g_aloadN X1 hx hby d_pw0_34 rfl rfl (rfl : 34 + 1 = 35) ?_
  refine own_retR X1 hx hby hlk hrt rfl d_pw0_35 (by decide) (by decide) rfl ?_
  show Q_pw0 Z x0 h0 n0 _ T1.heap _
  rw [e1]
  exact ⟨b1, k1, rfl, N0, K1, sz1, V1⟩
theorem d_pw1_0 : decode prog_35_method_8_code 0 = .ok (.iload_n 2, 1) := by decide +kernel
theorem d_pw1_1 : decode prog_35_method_8_code 1 = .ok (.newarray .long, 2) := by decide +kernel
theorem d_pw1_3 : decode prog_35_method_8_code 3 = .ok (.astore_n 3, 1) := by decide +kernel
theorem d_pw1_4 : decode prog_35_method_8_code 4 = .ok (.lconst 1, 1) := by decide +kernel
theorem d_pw1_5 : decode prog_35_method_8_code 5 = .ok (.lstore 4, 2) := by decide +kernel
theorem d_pw1_7 : decode prog_35_method_8_code 7 = .ok (.iconst 0, 1) := by decide +kernel
theorem d_pw1_8 : decode prog_35_method_8_code 8 = .ok (.istore 6, 2) := by decide +kernel
theorem d_pw1_10 : decode prog_35_method_8_code 10 = .ok (.iload 6, 2) := by decide +kernel
theorem d_pw1_12 : decode prog_35_method_8_code 12 = .ok (.iload_n 2, 1) := by decide +kernel
theorem d_pw1_13 : decode prog_35_method_8_code 13 = .ok (.if_icmp .ge 21, 3) := by decide +kernel
theorem d_pw1_16 : decode prog_35_method_8_code 16 = .ok (.aload_n 3, 1) := by decide +kernel
theorem d_pw1_17 : decode prog_35_method_8_code 17 = .ok (.iload 6, 2) := by decide +kernel
theorem d_pw1_19 : decode prog_35_method_8_code 19 = .ok (.lload 4, 2) := by decide +kernel
theorem d_pw1_21 : decode prog_35_method_8_code 21 = .ok (.lastore, 1) := by decide +kernel
theorem d_pw1_22 : decode prog_35_method_8_code 22 = .ok (.lload 4, 2) := by decide +kernel
theorem d_pw1_24 : decode prog_35_method_8_code 24 = .ok (.lload_n 0, 1) := by decide +kernel
theorem d_pw1_25 : decode prog_35_method_8_code 25 = .ok (.lmul, 1) := by decide +kernel
theorem d_pw1_26 : decode prog_35_method_8_code 26 = .ok (.lstore 4, 2) := by decide +kernel
theorem d_pw1_28 : decode prog_35_method_8_code 28 = .ok (.iinc 6 1, 3) := by decide +kernel
theorem d_pw1_31 : decode prog_35_method_8_code 31 = .ok (.goto (-21), 3) := by decide +kernel
theorem d_pw1_34 : decode prog_35_method_8_code 34 = .ok (.aload_n 3, 1) := by decide +kernel
theorem d_pw1_35 : decode prog_35_method_8_code 35 = .ok (.areturn, 1) := by decide +kernel
theorem ef_pw1 (m : MethodId) (x0 : Int64) : entryFrame m #[(.long x0), (.int (1 : Int32))] 7 = mkF m 0 #[.val (.long x0), .second, .val (.int (1 : Int32)), .unset, .unset, .unset, .unset] [] := by first | (simp [entryFrame, mkF, argsToLocals, Value.category]; done) | rfl
def Q_pw1 (Z : State) (x0 : Int64) (h0 : Heap) (n0 : Nat) (v : Option Value) (h : Heap) (L : List Loc) : Prop := ∃ (b : Addr), ∃ (kk : ClassId), v = some (.ref b) ∧ Fr n0 L ∧ Keep h0 h [] ∧ h0.size ≤ b ∧ Arv Z h b kk .long (1 : Int32) [(.long (1 : Int64))] (.long (0 : Int64))
set_option maxRecDepth 65536 in
set_option maxHeartbeats 40000000 in
theorem rm_pw1 (l : Launch) (Z : State) (a0 : Array Value) (hw : ∀ d ∈ tables_1, d.before a0 Z = true) (ws : List Jvm.Cond) (x0 : Int64) (h0 : Heap) (n0 : Nat) (Z0 : n0 ≤ h0.size) :
    MetFree l (⟨"com/example/markov_lumper/markovlumper/decimal/Scaling", "powers", "(JI)[J"⟩ : MethodName) (head1 (Jvm.Cond.code (⟨"com/example/markov_lumper/markovlumper/decimal/Scaling", "powers", "(JI)[J"⟩ : MethodName) prog_35_method_8_code 7 (some (.array .long)) :: ws) ({ frames := 0, cells := 1, slots := 1, locals := 0 } : Room)) (fun a U => a = #[(.long x0), (.int (1 : Int32))] ∧ Z.Warmed39 U.vm ∧ U.heap = h0) (fun _ _ _ _ _ => True) (fun _ U o U' => ∃ v L, o = .returned v ∧ Q_pw1 Z x0 h0 n0 v U'.heap L ∧ FrameEnd U o U' L ({ frames := 0, cells := 1, slots := 1, locals := 0 } : Room).cells ({ frames := 0, cells := 1, slots := 1, locals := 0 } : Room).slots) := by
  refine MetFree.of_bodySF (plainFor_of_name pn0) hisR ?_
  intro p e s m args below meth c s₁ Bd hml0 hP hK
  obtain ⟨rfl, hZ, hh⟩ := hP
  have hx := Bd.exec
  have hby := Bd.bytes
  have hml : c.maxLocals = 7 := hml0
  have hown : s.vm.findClass "com/example/markov_lumper/markovlumper/decimal/Scaling" = some m.cls := findClass_of_methodNamed Bd.named
  have hnm := (name_of_methodNamed Bd.named Bd.method).1
  have hlk := Bd.notSynchronized
  have hrt := Bd.returns
  have X0 : Stand p l e ({ frames := 0, cells := 1, slots := 1, locals := 0 } : Room) s m #[(.long x0), (.int (1 : Int32))] below meth c s₁ [] 0 0 := Stand.of_body Bd
  have e0 : s₁.heap = h0 := by rw [← hh, Bd.state]; rfl
  have N0 := Fr.nil n0
  refine own_cast (P := own_End s (Q_pw1 Z x0 h0 n0) ({ frames := 0, cells := 1, slots := 1, locals := 0 } : Room).cells ({ frames := 0, cells := 1, slots := 1, locals := 0 } : Room).slots) (ef_pw1 m x0) ?_
  refine g_iloadN X0 hx hby d_pw1_0 rfl (rfl : 0 + 1 = 1) ?_
  obtain ⟨T2, h2, k2, X2, e2, E2, A2, B2, st2⟩ := newPE X0 hx hZ (hw _ (List.mem_of_getElem? (i := 4) rfl)) e0 (g := (mkF m 1 #[.val (.long x0), .second, .val (.int (1 : Int32)), .unset, .unset, .unset, .unset] [(.int (1 : Int32))])) rfl (hb hby d_pw1_1) rfl (by decide) (cap := 1) (by decide) (by decide) (by decide) (by decide) (ad := "[J") (by decide +kernel)
  obtain ⟨b2, g2⟩ : ∃ z, z = h0.size := ⟨_, rfl⟩
  rw [← g2] at A2 B2 st2
  have Z2 : n0 ≤ h2.size := Nat.le_trans Z0 E2.1
  have K2 : Keep h0 h2 [] := (Keep.refl h0 []).ext E2
  have ge2 : n0 ≤ b2 := Nat.le_trans Z0 (Nat.le_of_eq g2.symm)
  have sz2 : h0.size ≤ b2 := Nat.le_trans (Keep.refl h0 []).1 (Nat.le_of_eq g2.symm)
  have V2 : Arv Z h2 b2 k2 .long (1 : Int32) [(.long (0 : Int64))] (.long (0 : Int64)) := (Arv.new A2 (by decide)).pad (pad_rep [] _ 1)
  refine own_go st2 ?_
  show own_Got p e below _ T2 (mkF m 3 #[.val (.long x0), .second, .val (.int (1 : Int32)), .unset, .unset, .unset, .unset] [(.ref b2)])
  refine g_astoreN X2 hx hby #[.val (.long x0), .second, .val (.int (1 : Int32)), .val (.ref b2), .unset, .unset, .unset] d_pw1_3 rfl rfl (rfl : 3 + 1 = 4) ?_
  refine g_lconst X2 hx hby (1 : Int64) d_pw1_4 (by decide) (rfl : 4 + 1 = 5) ?_
  refine g_lstore X2 hx hby #[.val (.long x0), .second, .val (.int (1 : Int32)), .val (.ref b2), .val (.long (1 : Int64)), .second, .unset] d_pw1_5 rfl (rfl : 5 + 2 = 7) ?_
  refine g_iconst X2 hx hby (0 : Int32) d_pw1_7 (by decide) (rfl : 7 + 1 = 8) ?_
  refine g_istore X2 hx hby #[.val (.long x0), .second, .val (.int (1 : Int32)), .val (.ref b2), .val (.long (1 : Int64)), .second, .val (.int (0 : Int32))] d_pw1_8 rfl (rfl : 8 + 2 = 10) ?_
  refine g_iload X2 hx hby d_pw1_10 rfl (rfl : 10 + 2 = 12) ?_
  refine g_iloadN X2 hx hby d_pw1_12 rfl (rfl : 12 + 1 = 13) ?_
  refine g_icF X2 hx hby d_pw1_13 (tlt (by decide : (0 : Int32) < (1 : Int32))).2.1 (rfl : 13 + 3 = 16) ?_
  refine g_aloadN X2 hx hby d_pw1_16 rfl rfl (rfl : 16 + 1 = 17) ?_
  refine g_iload X2 hx hby d_pw1_17 rfl (rfl : 17 + 2 = 19) ?_
  refine g_lload X2 hx hby d_pw1_19 rfl (rfl : 19 + 2 = 21) ?_
  obtain ⟨T3, h3, X3, e3, W3, V3, st3⟩ := a_lastore X2 hx hby hZ e2 (ls := #[.val (.long x0), .second, .val (.int (1 : Int32)), .val (.ref b2), .val (.long (1 : Int64)), .second, .val (.int (0 : Int32))]) (st := []) (j := (0 : Int32)) (1 : Int64) 0 V2 ⟨by decide, by decide⟩ (by decide) (Nat.le_of_ble_eq_true rfl) d_pw1_21
  have Z3 : n0 ≤ h3.size := Nat.le_trans Z2 (Keep.of_wr W3).1
  have N3 := Fr.snoc X3 N0 ge2
  have K3 : Keep h0 h3 [] := K2.wr W3 (Or.inr sz2)
  have V3' : Arv Z h3 b2 k2 .long (1 : Int32) [(.long (1 : Int64))] (.long (0 : Int64)) := V3
  refine own_go st3 ?_
  show own_Got p e below _ T3 (mkF m 22 #[.val (.long x0), .second, .val (.int (1 : Int32)), .val (.ref b2), .val (.long (1 : Int64)), .second, .val (.int (0 : Int32))] [])
  refine g_lload X3 hx hby d_pw1_22 rfl (rfl : 22 + 2 = 24) ?_
  refine g_lloadN X3 hx hby d_pw1_24 rfl (rfl : 24 + 1 = 25) ?_
  refine g_lmul X3 hx hby d_pw1_25 (rfl : 25 + 1 = 26) ?_
  refine g_lstore X3 hx hby #[.val (.long x0), .second, .val (.int (1 : Int32)), .val (.ref b2), .val (.long ((1 : Int64) * x0)), .second, .val (.int (0 : Int32))] d_pw1_26 rfl (rfl : 26 + 2 = 28) ?_
  refine g_iinc X3 hx hby #[.val (.long x0), .second, .val (.int (1 : Int32)), .val (.ref b2), .val (.long ((1 : Int64) * x0)), .second, .val (.int ((0 : Int32) + (1 : Int32)))] d_pw1_28 rfl rfl (rfl : 28 + 3 = 31) ?_
  rw [(by decide : ((0 : Int32) + (1 : Int32)) = (1 : Int32))]
  refine g_goto X3 hx hby d_pw1_31 (by decide) (pc' := 10) (by decide) ?_
  refine g_iload X3 hx hby d_pw1_10 rfl (rfl : 10 + 2 = 12) ?_
  refine g_iloadN X3 hx hby d_pw1_12 rfl (rfl : 12 + 1 = 13) ?_
  refine g_icT X3 hx hby d_pw1_13 (flt (by decide : ¬ ((1 : Int32) < (1 : Int32)))).2.1 (by decide) (pc' := 34) (by decide) ?_
  refine g_aloadN X3 hx hby d_pw1_34 rfl rfl (rfl : 34 + 1 = 35) ?_
  refine own_retR X3 hx hby hlk hrt rfl d_pw1_35 (by decide) (by decide) rfl ?_
  show Q_pw1 Z x0 h0 n0 _ T3.heap _
  rw [e3]
  exact ⟨b2, k2, rfl, N3, K3, sz2, V3'⟩
theorem d_pw2_0 : decode prog_35_method_8_code 0 = .ok (.iload_n 2, 1) := by decide +kernel
theorem d_pw2_1 : decode prog_35_method_8_code 1 = .ok (.newarray .long, 2) := by decide +kernel
theorem d_pw2_3 : decode prog_35_method_8_code 3 = .ok (.astore_n 3, 1) := by decide +kernel
theorem d_pw2_4 : decode prog_35_method_8_code 4 = .ok (.lconst 1, 1) := by decide +kernel
theorem d_pw2_5 : decode prog_35_method_8_code 5 = .ok (.lstore 4, 2) := by decide +kernel
theorem d_pw2_7 : decode prog_35_method_8_code 7 = .ok (.iconst 0, 1) := by decide +kernel
theorem d_pw2_8 : decode prog_35_method_8_code 8 = .ok (.istore 6, 2) := by decide +kernel
theorem d_pw2_10 : decode prog_35_method_8_code 10 = .ok (.iload 6, 2) := by decide +kernel
theorem d_pw2_12 : decode prog_35_method_8_code 12 = .ok (.iload_n 2, 1) := by decide +kernel
theorem d_pw2_13 : decode prog_35_method_8_code 13 = .ok (.if_icmp .ge 21, 3) := by decide +kernel
theorem d_pw2_16 : decode prog_35_method_8_code 16 = .ok (.aload_n 3, 1) := by decide +kernel
theorem d_pw2_17 : decode prog_35_method_8_code 17 = .ok (.iload 6, 2) := by decide +kernel
theorem d_pw2_19 : decode prog_35_method_8_code 19 = .ok (.lload 4, 2) := by decide +kernel
theorem d_pw2_21 : decode prog_35_method_8_code 21 = .ok (.lastore, 1) := by decide +kernel
theorem d_pw2_22 : decode prog_35_method_8_code 22 = .ok (.lload 4, 2) := by decide +kernel
theorem d_pw2_24 : decode prog_35_method_8_code 24 = .ok (.lload_n 0, 1) := by decide +kernel
theorem d_pw2_25 : decode prog_35_method_8_code 25 = .ok (.lmul, 1) := by decide +kernel
theorem d_pw2_26 : decode prog_35_method_8_code 26 = .ok (.lstore 4, 2) := by decide +kernel
theorem d_pw2_28 : decode prog_35_method_8_code 28 = .ok (.iinc 6 1, 3) := by decide +kernel
theorem d_pw2_31 : decode prog_35_method_8_code 31 = .ok (.goto (-21), 3) := by decide +kernel
theorem d_pw2_34 : decode prog_35_method_8_code 34 = .ok (.aload_n 3, 1) := by decide +kernel
theorem d_pw2_35 : decode prog_35_method_8_code 35 = .ok (.areturn, 1) := by decide +kernel
theorem ef_pw2 (m : MethodId) (x0 : Int64) : entryFrame m #[(.long x0), (.int (2 : Int32))] 7 = mkF m 0 #[.val (.long x0), .second, .val (.int (2 : Int32)), .unset, .unset, .unset, .unset] [] := by first | (simp [entryFrame, mkF, argsToLocals, Value.category]; done) | rfl
def Q_pw2 (Z : State) (x0 : Int64) (h0 : Heap) (n0 : Nat) (v : Option Value) (h : Heap) (L : List Loc) : Prop := ∃ (b : Addr), ∃ (kk : ClassId), v = some (.ref b) ∧ Fr n0 L ∧ Keep h0 h [] ∧ h0.size ≤ b ∧ Arv Z h b kk .long (2 : Int32) [(.long (1 : Int64)), (.long ((1 : Int64) * x0))] (.long (0 : Int64))
set_option maxRecDepth 65536 in
set_option maxHeartbeats 40000000 in
theorem rm_pw2 (l : Launch) (Z : State) (a0 : Array Value) (hw : ∀ d ∈ tables_1, d.before a0 Z = true) (ws : List Jvm.Cond) (x0 : Int64) (h0 : Heap) (n0 : Nat) (Z0 : n0 ≤ h0.size) :
    MetFree l (⟨"com/example/markov_lumper/markovlumper/decimal/Scaling", "powers", "(JI)[J"⟩ : MethodName) (head1 (Jvm.Cond.code (⟨"com/example/markov_lumper/markovlumper/decimal/Scaling", "powers", "(JI)[J"⟩ : MethodName) prog_35_method_8_code 7 (some (.array .long)) :: ws) ({ frames := 0, cells := 1, slots := 2, locals := 0 } : Room)) (fun a U => a = #[(.long x0), (.int (2 : Int32))] ∧ Z.Warmed39 U.vm ∧ U.heap = h0) (fun _ _ _ _ _ => True) (fun _ U o U' => ∃ v L, o = .returned v ∧ Q_pw2 Z x0 h0 n0 v U'.heap L ∧ FrameEnd U o U' L ({ frames := 0, cells := 1, slots := 2, locals := 0 } : Room).cells ({ frames := 0, cells := 1, slots := 2, locals := 0 } : Room).slots) := by
  refine MetFree.of_bodySF (plainFor_of_name pn0) hisR ?_
  intro p e s m args below meth c s₁ Bd hml0 hP hK
  obtain ⟨rfl, hZ, hh⟩ := hP
  have hx := Bd.exec
  have hby := Bd.bytes
  have hml : c.maxLocals = 7 := hml0
  have hown : s.vm.findClass "com/example/markov_lumper/markovlumper/decimal/Scaling" = some m.cls := findClass_of_methodNamed Bd.named
  have hnm := (name_of_methodNamed Bd.named Bd.method).1
  have hlk := Bd.notSynchronized
  have hrt := Bd.returns
  have X0 : Stand p l e ({ frames := 0, cells := 1, slots := 2, locals := 0 } : Room) s m #[(.long x0), (.int (2 : Int32))] below meth c s₁ [] 0 0 := Stand.of_body Bd
  have e0 : s₁.heap = h0 := by rw [← hh, Bd.state]; rfl
  have N0 := Fr.nil n0
  refine own_cast (P := own_End s (Q_pw2 Z x0 h0 n0) ({ frames := 0, cells := 1, slots := 2, locals := 0 } : Room).cells ({ frames := 0, cells := 1, slots := 2, locals := 0 } : Room).slots) (ef_pw2 m x0) ?_
  refine g_iloadN X0 hx hby d_pw2_0 rfl (rfl : 0 + 1 = 1) ?_
  obtain ⟨T4, h4, k4, X4, e4, E4, A4, B4, st4⟩ := newPE X0 hx hZ (hw _ (List.mem_of_getElem? (i := 4) rfl)) e0 (g := (mkF m 1 #[.val (.long x0), .second, .val (.int (2 : Int32)), .unset, .unset, .unset, .unset] [(.int (2 : Int32))])) rfl (hb hby d_pw2_1) rfl (by decide) (cap := 2) (by decide) (by decide) (by decide) (by decide) (ad := "[J") (by decide +kernel)
  obtain ⟨b4, g4⟩ : ∃ z, z = h0.size := ⟨_, rfl⟩
  rw [← g4] at A4 B4 st4
  have Z4 : n0 ≤ h4.size := Nat.le_trans Z0 E4.1
  have K4 : Keep h0 h4 [] := (Keep.refl h0 []).ext E4
  have ge4 : n0 ≤ b4 := Nat.le_trans Z0 (Nat.le_of_eq g4.symm)
  have sz4 : h0.size ≤ b4 := Nat.le_trans (Keep.refl h0 []).1 (Nat.le_of_eq g4.symm)
  have V4 : Arv Z h4 b4 k4 .long (2 : Int32) [(.long (0 : Int64)), (.long (0 : Int64))] (.long (0 : Int64)) := (Arv.new A4 (by decide)).pad (pad_rep [] _ 2)
  refine own_go st4 ?_
  show own_Got p e below _ T4 (mkF m 3 #[.val (.long x0), .second, .val (.int (2 : Int32)), .unset, .unset, .unset, .unset] [(.ref b4)])
  refine g_astoreN X4 hx hby #[.val (.long x0), .second, .val (.int (2 : Int32)), .val (.ref b4), .unset, .unset, .unset] d_pw2_3 rfl rfl (rfl : 3 + 1 = 4) ?_
  refine g_lconst X4 hx hby (1 : Int64) d_pw2_4 (by decide) (rfl : 4 + 1 = 5) ?_
  refine g_lstore X4 hx hby #[.val (.long x0), .second, .val (.int (2 : Int32)), .val (.ref b4), .val (.long (1 : Int64)), .second, .unset] d_pw2_5 rfl (rfl : 5 + 2 = 7) ?_
  refine g_iconst X4 hx hby (0 : Int32) d_pw2_7 (by decide) (rfl : 7 + 1 = 8) ?_
  refine g_istore X4 hx hby #[.val (.long x0), .second, .val (.int (2 : Int32)), .val (.ref b4), .val (.long (1 : Int64)), .second, .val (.int (0 : Int32))] d_pw2_8 rfl (rfl : 8 + 2 = 10) ?_
  refine g_iload X4 hx hby d_pw2_10 rfl (rfl : 10 + 2 = 12) ?_
  refine g_iloadN X4 hx hby d_pw2_12 rfl (rfl : 12 + 1 = 13) ?_
  refine g_icF X4 hx hby d_pw2_13 (tlt (by decide : (0 : Int32) < (2 : Int32))).2.1 (rfl : 13 + 3 = 16) ?_
  refine g_aloadN X4 hx hby d_pw2_16 rfl rfl (rfl : 16 + 1 = 17) ?_
  refine g_iload X4 hx hby d_pw2_17 rfl (rfl : 17 + 2 = 19) ?_
  refine g_lload X4 hx hby d_pw2_19 rfl (rfl : 19 + 2 = 21) ?_
  obtain ⟨T5, h5, X5, e5, W5, V5, st5⟩ := a_lastore X4 hx hby hZ e4 (ls := #[.val (.long x0), .second, .val (.int (2 : Int32)), .val (.ref b4), .val (.long (1 : Int64)), .second, .val (.int (0 : Int32))]) (st := []) (j := (0 : Int32)) (1 : Int64) 0 V4 ⟨by decide, by decide⟩ (by decide) (Nat.le_of_ble_eq_true rfl) d_pw2_21
  have Z5 : n0 ≤ h5.size := Nat.le_trans Z4 (Keep.of_wr W5).1
  have N5 := Fr.snoc X5 N0 ge4
  have K5 : Keep h0 h5 [] := K4.wr W5 (Or.inr sz4)
  have V5' : Arv Z h5 b4 k4 .long (2 : Int32) [(.long (1 : Int64)), (.long (0 : Int64))] (.long (0 : Int64)) := V5
  refine own_go st5 ?_
  show own_Got p e below _ T5 (mkF m 22 #[.val (.long x0), .second, .val (.int (2 : Int32)), .val (.ref b4), .val (.long (1 : Int64)), .second, .val (.int (0 : Int32))] [])
  refine g_lload X5 hx hby d_pw2_22 rfl (rfl : 22 + 2 = 24) ?_
  refine g_lloadN X5 hx hby d_pw2_24 rfl (rfl : 24 + 1 = 25) ?_
  refine g_lmul X5 hx hby d_pw2_25 (rfl : 25 + 1 = 26) ?_
  refine g_lstore X5 hx hby #[.val (.long x0), .second, .val (.int (2 : Int32)), .val (.ref b4), .val (.long ((1 : Int64) * x0)), .second, .val (.int (0 : Int32))] d_pw2_26 rfl (rfl : 26 + 2 = 28) ?_
  refine g_iinc X5 hx hby #[.val (.long x0), .second, .val (.int (2 : Int32)), .val (.ref b4), .val (.long ((1 : Int64) * x0)), .second, .val (.int ((0 : Int32) + (1 : Int32)))] d_pw2_28 rfl rfl (rfl : 28 + 3 = 31) ?_
  rw [(by decide : ((0 : Int32) + (1 : Int32)) = (1 : Int32))]
  refine g_goto X5 hx hby d_pw2_31 (by decide) (pc' := 10) (by decide) ?_
  refine g_iload X5 hx hby d_pw2_10 rfl (rfl : 10 + 2 = 12) ?_
  refine g_iloadN X5 hx hby d_pw2_12 rfl (rfl : 12 + 1 = 13) ?_
  refine g_icF X5 hx hby d_pw2_13 (tlt (by decide : (1 : Int32) < (2 : Int32))).2.1 (rfl : 13 + 3 = 16) ?_
  refine g_aloadN X5 hx hby d_pw2_16 rfl rfl (rfl : 16 + 1 = 17) ?_
  refine g_iload X5 hx hby d_pw2_17 rfl (rfl : 17 + 2 = 19) ?_
  refine g_lload X5 hx hby d_pw2_19 rfl (rfl : 19 + 2 = 21) ?_
  obtain ⟨T6, h6, X6, e6, W6, V6, st6⟩ := a_lastore X5 hx hby hZ e5 (ls := #[.val (.long x0), .second, .val (.int (2 : Int32)), .val (.ref b4), .val (.long ((1 : Int64) * x0)), .second, .val (.int (1 : Int32))]) (st := []) (j := (1 : Int32)) ((1 : Int64) * x0) 1 V5' ⟨by decide, by decide⟩ (by decide) (Nat.le_of_ble_eq_true rfl) d_pw2_21
  have Z6 : n0 ≤ h6.size := Nat.le_trans Z5 (Keep.of_wr W6).1
  have N6 := Fr.snoc X6 N5 ge4
  have K6 : Keep h0 h6 [] := K5.wr W6 (Or.inr sz4)
  have V6' : Arv Z h6 b4 k4 .long (2 : Int32) [(.long (1 : Int64)), (.long ((1 : Int64) * x0))] (.long (0 : Int64)) := V6
  refine own_go st6 ?_
  show own_Got p e below _ T6 (mkF m 22 #[.val (.long x0), .second, .val (.int (2 : Int32)), .val (.ref b4), .val (.long ((1 : Int64) * x0)), .second, .val (.int (1 : Int32))] [])
  refine g_lload X6 hx hby d_pw2_22 rfl (rfl : 22 + 2 = 24) ?_
  refine g_lloadN X6 hx hby d_pw2_24 rfl (rfl : 24 + 1 = 25) ?_
  refine g_lmul X6 hx hby d_pw2_25 (rfl : 25 + 1 = 26) ?_
  refine g_lstore X6 hx hby #[.val (.long x0), .second, .val (.int (2 : Int32)), .val (.ref b4), .val (.long (((1 : Int64) * x0) * x0)), .second, .val (.int (1 : Int32))] d_pw2_26 rfl (rfl : 26 + 2 = 28) ?_
  refine g_iinc X6 hx hby #[.val (.long x0), .second, .val (.int (2 : Int32)), .val (.ref b4), .val (.long (((1 : Int64) * x0) * x0)), .second, .val (.int ((1 : Int32) + (1 : Int32)))] d_pw2_28 rfl rfl (rfl : 28 + 3 = 31) ?_
  rw [(by decide : ((1 : Int32) + (1 : Int32)) = (2 : Int32))]
  refine g_goto X6 hx hby d_pw2_31 (by decide) (pc' := 10) (by decide) ?_
  refine g_iload X6 hx hby d_pw2_10 rfl (rfl : 10 + 2 = 12) ?_
  refine g_iloadN X6 hx hby d_pw2_12 rfl (rfl : 12 + 1 = 13) ?_
  refine g_icT X6 hx hby d_pw2_13 (flt (by decide : ¬ ((2 : Int32) < (2 : Int32)))).2.1 (by decide) (pc' := 34) (by decide) ?_
  refine g_aloadN X6 hx hby d_pw2_34 rfl rfl (rfl : 34 + 1 = 35) ?_
  refine own_retR X6 hx hby hlk hrt rfl d_pw2_35 (by decide) (by decide) rfl ?_
  show Q_pw2 Z x0 h0 n0 _ T6.heap _
  rw [e6]
  exact ⟨b4, k4, rfl, N6, K6, sz4, V6'⟩
theorem d_pw3_0 : decode prog_35_method_8_code 0 = .ok (.iload_n 2, 1) := by decide +kernel
theorem d_pw3_1 : decode prog_35_method_8_code 1 = .ok (.newarray .long, 2) := by decide +kernel
theorem d_pw3_3 : decode prog_35_method_8_code 3 = .ok (.astore_n 3, 1) := by decide +kernel
theorem d_pw3_4 : decode prog_35_method_8_code 4 = .ok (.lconst 1, 1) := by decide +kernel
theorem d_pw3_5 : decode prog_35_method_8_code 5 = .ok (.lstore 4, 2) := by decide +kernel
theorem d_pw3_7 : decode prog_35_method_8_code 7 = .ok (.iconst 0, 1) := by decide +kernel
theorem d_pw3_8 : decode prog_35_method_8_code 8 = .ok (.istore 6, 2) := by decide +kernel
theorem d_pw3_10 : decode prog_35_method_8_code 10 = .ok (.iload 6, 2) := by decide +kernel
theorem d_pw3_12 : decode prog_35_method_8_code 12 = .ok (.iload_n 2, 1) := by decide +kernel
theorem d_pw3_13 : decode prog_35_method_8_code 13 = .ok (.if_icmp .ge 21, 3) := by decide +kernel
theorem d_pw3_16 : decode prog_35_method_8_code 16 = .ok (.aload_n 3, 1) := by decide +kernel
theorem d_pw3_17 : decode prog_35_method_8_code 17 = .ok (.iload 6, 2) := by decide +kernel
theorem d_pw3_19 : decode prog_35_method_8_code 19 = .ok (.lload 4, 2) := by decide +kernel
theorem d_pw3_21 : decode prog_35_method_8_code 21 = .ok (.lastore, 1) := by decide +kernel
theorem d_pw3_22 : decode prog_35_method_8_code 22 = .ok (.lload 4, 2) := by decide +kernel
theorem d_pw3_24 : decode prog_35_method_8_code 24 = .ok (.lload_n 0, 1) := by decide +kernel
theorem d_pw3_25 : decode prog_35_method_8_code 25 = .ok (.lmul, 1) := by decide +kernel
theorem d_pw3_26 : decode prog_35_method_8_code 26 = .ok (.lstore 4, 2) := by decide +kernel
theorem d_pw3_28 : decode prog_35_method_8_code 28 = .ok (.iinc 6 1, 3) := by decide +kernel
theorem d_pw3_31 : decode prog_35_method_8_code 31 = .ok (.goto (-21), 3) := by decide +kernel
theorem d_pw3_34 : decode prog_35_method_8_code 34 = .ok (.aload_n 3, 1) := by decide +kernel
theorem d_pw3_35 : decode prog_35_method_8_code 35 = .ok (.areturn, 1) := by decide +kernel
theorem ef_pw3 (m : MethodId) (x0 : Int64) : entryFrame m #[(.long x0), (.int (3 : Int32))] 7 = mkF m 0 #[.val (.long x0), .second, .val (.int (3 : Int32)), .unset, .unset, .unset, .unset] [] := by first | (simp [entryFrame, mkF, argsToLocals, Value.category]; done) | rfl
def Q_pw3 (Z : State) (x0 : Int64) (h0 : Heap) (n0 : Nat) (v : Option Value) (h : Heap) (L : List Loc) : Prop := ∃ (b : Addr), ∃ (kk : ClassId), v = some (.ref b) ∧ Fr n0 L ∧ Keep h0 h [] ∧ h0.size ≤ b ∧ Arv Z h b kk .long (3 : Int32) [(.long (1 : Int64)), (.long ((1 : Int64) * x0)), (.long (((1 : Int64) * x0) * x0))] (.long (0 : Int64))
set_option maxRecDepth 65536 in
set_option maxHeartbeats 40000000 in
theorem rm_pw3 (l : Launch) (Z : State) (a0 : Array Value) (hw : ∀ d ∈ tables_1, d.before a0 Z = true) (ws : List Jvm.Cond) (x0 : Int64) (h0 : Heap) (n0 : Nat) (Z0 : n0 ≤ h0.size) :
    MetFree l (⟨"com/example/markov_lumper/markovlumper/decimal/Scaling", "powers", "(JI)[J"⟩ : MethodName) (head1 (Jvm.Cond.code (⟨"com/example/markov_lumper/markovlumper/decimal/Scaling", "powers", "(JI)[J"⟩ : MethodName) prog_35_method_8_code 7 (some (.array .long)) :: ws) ({ frames := 0, cells := 1, slots := 3, locals := 0 } : Room)) (fun a U => a = #[(.long x0), (.int (3 : Int32))] ∧ Z.Warmed39 U.vm ∧ U.heap = h0) (fun _ _ _ _ _ => True) (fun _ U o U' => ∃ v L, o = .returned v ∧ Q_pw3 Z x0 h0 n0 v U'.heap L ∧ FrameEnd U o U' L ({ frames := 0, cells := 1, slots := 3, locals := 0 } : Room).cells ({ frames := 0, cells := 1, slots := 3, locals := 0 } : Room).slots) := by
  refine MetFree.of_bodySF (plainFor_of_name pn0) hisR ?_
  intro p e s m args below meth c s₁ Bd hml0 hP hK
  obtain ⟨rfl, hZ, hh⟩ := hP
  have hx := Bd.exec
  have hby := Bd.bytes
  have hml : c.maxLocals = 7 := hml0
  have hown : s.vm.findClass "com/example/markov_lumper/markovlumper/decimal/Scaling" = some m.cls := findClass_of_methodNamed Bd.named
  have hnm := (name_of_methodNamed Bd.named Bd.method).1
  have hlk := Bd.notSynchronized
  have hrt := Bd.returns
  have X0 : Stand p l e ({ frames := 0, cells := 1, slots := 3, locals := 0 } : Room) s m #[(.long x0), (.int (3 : Int32))] below meth c s₁ [] 0 0 := Stand.of_body Bd
  have e0 : s₁.heap = h0 := by rw [← hh, Bd.state]; rfl
  have N0 := Fr.nil n0
  refine own_cast (P := own_End s (Q_pw3 Z x0 h0 n0) ({ frames := 0, cells := 1, slots := 3, locals := 0 } : Room).cells ({ frames := 0, cells := 1, slots := 3, locals := 0 } : Room).slots) (ef_pw3 m x0) ?_
  refine g_iloadN X0 hx hby d_pw3_0 rfl (rfl : 0 + 1 = 1) ?_
  obtain ⟨T7, h7, k7, X7, e7, E7, A7, B7, st7⟩ := newPE X0 hx hZ (hw _ (List.mem_of_getElem? (i := 4) rfl)) e0 (g := (mkF m 1 #[.val (.long x0), .second, .val (.int (3 : Int32)), .unset, .unset, .unset, .unset] [(.int (3 : Int32))])) rfl (hb hby d_pw3_1) rfl (by decide) (cap := 3) (by decide) (by decide) (by decide) (by decide) (ad := "[J") (by decide +kernel)
  obtain ⟨b7, g7⟩ : ∃ z, z = h0.size := ⟨_, rfl⟩
  rw [← g7] at A7 B7 st7
  have Z7 : n0 ≤ h7.size := Nat.le_trans Z0 E7.1
  have K7 : Keep h0 h7 [] := (Keep.refl h0 []).ext E7
  have ge7 : n0 ≤ b7 := Nat.le_trans Z0 (Nat.le_of_eq g7.symm)
  have sz7 : h0.size ≤ b7 := Nat.le_trans (Keep.refl h0 []).1 (Nat.le_of_eq g7.symm)
  have V7 : Arv Z h7 b7 k7 .long (3 : Int32) [(.long (0 : Int64)), (.long (0 : Int64)), (.long (0 : Int64))] (.long (0 : Int64)) := (Arv.new A7 (by decide)).pad (pad_rep [] _ 3)
  refine own_go st7 ?_
  show own_Got p e below _ T7 (mkF m 3 #[.val (.long x0), .second, .val (.int (3 : Int32)), .unset, .unset, .unset, .unset] [(.ref b7)])
  refine g_astoreN X7 hx hby #[.val (.long x0), .second, .val (.int (3 : Int32)), .val (.ref b7), .unset, .unset, .unset] d_pw3_3 rfl rfl (rfl : 3 + 1 = 4) ?_
  refine g_lconst X7 hx hby (1 : Int64) d_pw3_4 (by decide) (rfl : 4 + 1 = 5) ?_
  refine g_lstore X7 hx hby #[.val (.long x0), .second, .val (.int (3 : Int32)), .val (.ref b7), .val (.long (1 : Int64)), .second, .unset] d_pw3_5 rfl (rfl : 5 + 2 = 7) ?_
  refine g_iconst X7 hx hby (0 : Int32) d_pw3_7 (by decide) (rfl : 7 + 1 = 8) ?_
  refine g_istore X7 hx hby #[.val (.long x0), .second, .val (.int (3 : Int32)), .val (.ref b7), .val (.long (1 : Int64)), .second, .val (.int (0 : Int32))] d_pw3_8 rfl (rfl : 8 + 2 = 10) ?_
  refine g_iload X7 hx hby d_pw3_10 rfl (rfl : 10 + 2 = 12) ?_
  refine g_iloadN X7 hx hby d_pw3_12 rfl (rfl : 12 + 1 = 13) ?_
  refine g_icF X7 hx hby d_pw3_13 (tlt (by decide : (0 : Int32) < (3 : Int32))).2.1 (rfl : 13 + 3 = 16) ?_
  refine g_aloadN X7 hx hby d_pw3_16 rfl rfl (rfl : 16 + 1 = 17) ?_
  refine g_iload X7 hx hby d_pw3_17 rfl (rfl : 17 + 2 = 19) ?_
  refine g_lload X7 hx hby d_pw3_19 rfl (rfl : 19 + 2 = 21) ?_
  obtain ⟨T8, h8, X8, e8, W8, V8, st8⟩ := a_lastore X7 hx hby hZ e7 (ls := #[.val (.long x0), .second, .val (.int (3 : Int32)), .val (.ref b7), .val (.long (1 : Int64)), .second, .val (.int (0 : Int32))]) (st := []) (j := (0 : Int32)) (1 : Int64) 0 V7 ⟨by decide, by decide⟩ (by decide) (Nat.le_of_ble_eq_true rfl) d_pw3_21
  have Z8 : n0 ≤ h8.size := Nat.le_trans Z7 (Keep.of_wr W8).1
  have N8 := Fr.snoc X8 N0 ge7
  have K8 : Keep h0 h8 [] := K7.wr W8 (Or.inr sz7)
  have V8' : Arv Z h8 b7 k7 .long (3 : Int32) [(.long (1 : Int64)), (.long (0 : Int64)), (.long (0 : Int64))] (.long (0 : Int64)) := V8
  refine own_go st8 ?_
  show own_Got p e below _ T8 (mkF m 22 #[.val (.long x0), .second, .val (.int (3 : Int32)), .val (.ref b7), .val (.long (1 : Int64)), .second, .val (.int (0 : Int32))] [])
  refine g_lload X8 hx hby d_pw3_22 rfl (rfl : 22 + 2 = 24) ?_
  refine g_lloadN X8 hx hby d_pw3_24 rfl (rfl : 24 + 1 = 25) ?_
  refine g_lmul X8 hx hby d_pw3_25 (rfl : 25 + 1 = 26) ?_
  refine g_lstore X8 hx hby #[.val (.long x0), .second, .val (.int (3 : Int32)), .val (.ref b7), .val (.long ((1 : Int64) * x0)), .second, .val (.int (0 : Int32))] d_pw3_26 rfl (rfl : 26 + 2 = 28) ?_
  refine g_iinc X8 hx hby #[.val (.long x0), .second, .val (.int (3 : Int32)), .val (.ref b7), .val (.long ((1 : Int64) * x0)), .second, .val (.int ((0 : Int32) + (1 : Int32)))] d_pw3_28 rfl rfl (rfl : 28 + 3 = 31) ?_
  rw [(by decide : ((0 : Int32) + (1 : Int32)) = (1 : Int32))]
  refine g_goto X8 hx hby d_pw3_31 (by decide) (pc' := 10) (by decide) ?_
  refine g_iload X8 hx hby d_pw3_10 rfl (rfl : 10 + 2 = 12) ?_
  refine g_iloadN X8 hx hby d_pw3_12 rfl (rfl : 12 + 1 = 13) ?_
  refine g_icF X8 hx hby d_pw3_13 (tlt (by decide : (1 : Int32) < (3 : Int32))).2.1 (rfl : 13 + 3 = 16) ?_
  refine g_aloadN X8 hx hby d_pw3_16 rfl rfl (rfl : 16 + 1 = 17) ?_
  refine g_iload X8 hx hby d_pw3_17 rfl (rfl : 17 + 2 = 19) ?_
  refine g_lload X8 hx hby d_pw3_19 rfl (rfl : 19 + 2 = 21) ?_
  obtain ⟨T9, h9, X9, e9, W9, V9, st9⟩ := a_lastore X8 hx hby hZ e8 (ls := #[.val (.long x0), .second, .val (.int (3 : Int32)), .val (.ref b7), .val (.long ((1 : Int64) * x0)), .second, .val (.int (1 : Int32))]) (st := []) (j := (1 : Int32)) ((1 : Int64) * x0) 1 V8' ⟨by decide, by decide⟩ (by decide) (Nat.le_of_ble_eq_true rfl) d_pw3_21
  have Z9 : n0 ≤ h9.size := Nat.le_trans Z8 (Keep.of_wr W9).1
  have N9 := Fr.snoc X9 N8 ge7
  have K9 : Keep h0 h9 [] := K8.wr W9 (Or.inr sz7)
  have V9' : Arv Z h9 b7 k7 .long (3 : Int32) [(.long (1 : Int64)), (.long ((1 : Int64) * x0)), (.long (0 : Int64))] (.long (0 : Int64)) := V9
  refine own_go st9 ?_
  show own_Got p e below _ T9 (mkF m 22 #[.val (.long x0), .second, .val (.int (3 : Int32)), .val (.ref b7), .val (.long ((1 : Int64) * x0)), .second, .val (.int (1 : Int32))] [])
  refine g_lload X9 hx hby d_pw3_22 rfl (rfl : 22 + 2 = 24) ?_
  refine g_lloadN X9 hx hby d_pw3_24 rfl (rfl : 24 + 1 = 25) ?_
  refine g_lmul X9 hx hby d_pw3_25 (rfl : 25 + 1 = 26) ?_
  refine g_lstore X9 hx hby #[.val (.long x0), .second, .val (.int (3 : Int32)), .val (.ref b7), .val (.long (((1 : Int64) * x0) * x0)), .second, .val (.int (1 : Int32))] d_pw3_26 rfl (rfl : 26 + 2 = 28) ?_
  refine g_iinc X9 hx hby #[.val (.long x0), .second, .val (.int (3 : Int32)), .val (.ref b7), .val (.long (((1 : Int64) * x0) * x0)), .second, .val (.int ((1 : Int32) + (1 : Int32)))] d_pw3_28 rfl rfl (rfl : 28 + 3 = 31) ?_
  rw [(by decide : ((1 : Int32) + (1 : Int32)) = (2 : Int32))]
  refine g_goto X9 hx hby d_pw3_31 (by decide) (pc' := 10) (by decide) ?_
  refine g_iload X9 hx hby d_pw3_10 rfl (rfl : 10 + 2 = 12) ?_
  refine g_iloadN X9 hx hby d_pw3_12 rfl (rfl : 12 + 1 = 13) ?_
  refine g_icF X9 hx hby d_pw3_13 (tlt (by decide : (2 : Int32) < (3 : Int32))).2.1 (rfl : 13 + 3 = 16) ?_
  refine g_aloadN X9 hx hby d_pw3_16 rfl rfl (rfl : 16 + 1 = 17) ?_
  refine g_iload X9 hx hby d_pw3_17 rfl (rfl : 17 + 2 = 19) ?_
  refine g_lload X9 hx hby d_pw3_19 rfl (rfl : 19 + 2 = 21) ?_
  obtain ⟨T10, h10, X10, e10, W10, V10, st10⟩ := a_lastore X9 hx hby hZ e9 (ls := #[.val (.long x0), .second, .val (.int (3 : Int32)), .val (.ref b7), .val (.long (((1 : Int64) * x0) * x0)), .second, .val (.int (2 : Int32))]) (st := []) (j := (2 : Int32)) (((1 : Int64) * x0) * x0) 2 V9' ⟨by decide, by decide⟩ (by decide) (Nat.le_of_ble_eq_true rfl) d_pw3_21
  have Z10 : n0 ≤ h10.size := Nat.le_trans Z9 (Keep.of_wr W10).1
  have N10 := Fr.snoc X10 N9 ge7
  have K10 : Keep h0 h10 [] := K9.wr W10 (Or.inr sz7)
  have V10' : Arv Z h10 b7 k7 .long (3 : Int32) [(.long (1 : Int64)), (.long ((1 : Int64) * x0)), (.long (((1 : Int64) * x0) * x0))] (.long (0 : Int64)) := V10
  refine own_go st10 ?_
  show own_Got p e below _ T10 (mkF m 22 #[.val (.long x0), .second, .val (.int (3 : Int32)), .val (.ref b7), .val (.long (((1 : Int64) * x0) * x0)), .second, .val (.int (2 : Int32))] [])
  refine g_lload X10 hx hby d_pw3_22 rfl (rfl : 22 + 2 = 24) ?_
  refine g_lloadN X10 hx hby d_pw3_24 rfl (rfl : 24 + 1 = 25) ?_
  refine g_lmul X10 hx hby d_pw3_25 (rfl : 25 + 1 = 26) ?_
  refine g_lstore X10 hx hby #[.val (.long x0), .second, .val (.int (3 : Int32)), .val (.ref b7), .val (.long ((((1 : Int64) * x0) * x0) * x0)), .second, .val (.int (2 : Int32))] d_pw3_26 rfl (rfl : 26 + 2 = 28) ?_
  refine g_iinc X10 hx hby #[.val (.long x0), .second, .val (.int (3 : Int32)), .val (.ref b7), .val (.long ((((1 : Int64) * x0) * x0) * x0)), .second, .val (.int ((2 : Int32) + (1 : Int32)))] d_pw3_28 rfl rfl (rfl : 28 + 3 = 31) ?_
  rw [(by decide : ((2 : Int32) + (1 : Int32)) = (3 : Int32))]
  refine g_goto X10 hx hby d_pw3_31 (by decide) (pc' := 10) (by decide) ?_
  refine g_iload X10 hx hby d_pw3_10 rfl (rfl : 10 + 2 = 12) ?_
  refine g_iloadN X10 hx hby d_pw3_12 rfl (rfl : 12 + 1 = 13) ?_
  refine g_icT X10 hx hby d_pw3_13 (flt (by decide : ¬ ((3 : Int32) < (3 : Int32)))).2.1 (by decide) (pc' := 34) (by decide) ?_
  refine g_aloadN X10 hx hby d_pw3_34 rfl rfl (rfl : 34 + 1 = 35) ?_
  refine own_retR X10 hx hby hlk hrt rfl d_pw3_35 (by decide) (by decide) rfl ?_
  show Q_pw3 Z x0 h0 n0 _ T10.heap _
  rw [e10]
  exact ⟨b7, k7, rfl, N10, K10, sz7, V10'⟩
theorem d_pw4_0 : decode prog_35_method_8_code 0 = .ok (.iload_n 2, 1) := by decide +kernel
theorem d_pw4_1 : decode prog_35_method_8_code 1 = .ok (.newarray .long, 2) := by decide +kernel
theorem d_pw4_3 : decode prog_35_method_8_code 3 = .ok (.astore_n 3, 1) := by decide +kernel
theorem d_pw4_4 : decode prog_35_method_8_code 4 = .ok (.lconst 1, 1) := by decide +kernel
theorem d_pw4_5 : decode prog_35_method_8_code 5 = .ok (.lstore 4, 2) := by decide +kernel
theorem d_pw4_7 : decode prog_35_method_8_code 7 = .ok (.iconst 0, 1) := by decide +kernel
theorem d_pw4_8 : decode prog_35_method_8_code 8 = .ok (.istore 6, 2) := by decide +kernel
theorem d_pw4_10 : decode prog_35_method_8_code 10 = .ok (.iload 6, 2) := by decide +kernel
theorem d_pw4_12 : decode prog_35_method_8_code 12 = .ok (.iload_n 2, 1) := by decide +kernel
theorem d_pw4_13 : decode prog_35_method_8_code 13 = .ok (.if_icmp .ge 21, 3) := by decide +kernel
theorem d_pw4_16 : decode prog_35_method_8_code 16 = .ok (.aload_n 3, 1) := by decide +kernel
theorem d_pw4_17 : decode prog_35_method_8_code 17 = .ok (.iload 6, 2) := by decide +kernel
theorem d_pw4_19 : decode prog_35_method_8_code 19 = .ok (.lload 4, 2) := by decide +kernel
theorem d_pw4_21 : decode prog_35_method_8_code 21 = .ok (.lastore, 1) := by decide +kernel
theorem d_pw4_22 : decode prog_35_method_8_code 22 = .ok (.lload 4, 2) := by decide +kernel
theorem d_pw4_24 : decode prog_35_method_8_code 24 = .ok (.lload_n 0, 1) := by decide +kernel
theorem d_pw4_25 : decode prog_35_method_8_code 25 = .ok (.lmul, 1) := by decide +kernel
theorem d_pw4_26 : decode prog_35_method_8_code 26 = .ok (.lstore 4, 2) := by decide +kernel
theorem d_pw4_28 : decode prog_35_method_8_code 28 = .ok (.iinc 6 1, 3) := by decide +kernel
theorem d_pw4_31 : decode prog_35_method_8_code 31 = .ok (.goto (-21), 3) := by decide +kernel
theorem d_pw4_34 : decode prog_35_method_8_code 34 = .ok (.aload_n 3, 1) := by decide +kernel
theorem d_pw4_35 : decode prog_35_method_8_code 35 = .ok (.areturn, 1) := by decide +kernel
theorem ef_pw4 (m : MethodId) (x0 : Int64) : entryFrame m #[(.long x0), (.int (4 : Int32))] 7 = mkF m 0 #[.val (.long x0), .second, .val (.int (4 : Int32)), .unset, .unset, .unset, .unset] [] := by first | (simp [entryFrame, mkF, argsToLocals, Value.category]; done) | rfl
def Q_pw4 (Z : State) (x0 : Int64) (h0 : Heap) (n0 : Nat) (v : Option Value) (h : Heap) (L : List Loc) : Prop := ∃ (b : Addr), ∃ (kk : ClassId), v = some (.ref b) ∧ Fr n0 L ∧ Keep h0 h [] ∧ h0.size ≤ b ∧ Arv Z h b kk .long (4 : Int32) [(.long (1 : Int64)), (.long ((1 : Int64) * x0)), (.long (((1 : Int64) * x0) * x0)), (.long ((((1 : Int64) * x0) * x0) * x0))] (.long (0 : Int64))
set_option maxRecDepth 65536 in
set_option maxHeartbeats 40000000 in
theorem rm_pw4 (l : Launch) (Z : State) (a0 : Array Value) (hw : ∀ d ∈ tables_1, d.before a0 Z = true) (ws : List Jvm.Cond) (x0 : Int64) (h0 : Heap) (n0 : Nat) (Z0 : n0 ≤ h0.size) :
    MetFree l (⟨"com/example/markov_lumper/markovlumper/decimal/Scaling", "powers", "(JI)[J"⟩ : MethodName) (head1 (Jvm.Cond.code (⟨"com/example/markov_lumper/markovlumper/decimal/Scaling", "powers", "(JI)[J"⟩ : MethodName) prog_35_method_8_code 7 (some (.array .long)) :: ws) ({ frames := 0, cells := 1, slots := 4, locals := 0 } : Room)) (fun a U => a = #[(.long x0), (.int (4 : Int32))] ∧ Z.Warmed39 U.vm ∧ U.heap = h0) (fun _ _ _ _ _ => True) (fun _ U o U' => ∃ v L, o = .returned v ∧ Q_pw4 Z x0 h0 n0 v U'.heap L ∧ FrameEnd U o U' L ({ frames := 0, cells := 1, slots := 4, locals := 0 } : Room).cells ({ frames := 0, cells := 1, slots := 4, locals := 0 } : Room).slots) := by
  refine MetFree.of_bodySF (plainFor_of_name pn0) hisR ?_
  intro p e s m args below meth c s₁ Bd hml0 hP hK
  obtain ⟨rfl, hZ, hh⟩ := hP
  have hx := Bd.exec
  have hby := Bd.bytes
  have hml : c.maxLocals = 7 := hml0
  have hown : s.vm.findClass "com/example/markov_lumper/markovlumper/decimal/Scaling" = some m.cls := findClass_of_methodNamed Bd.named
  have hnm := (name_of_methodNamed Bd.named Bd.method).1
  have hlk := Bd.notSynchronized
  have hrt := Bd.returns
  have X0 : Stand p l e ({ frames := 0, cells := 1, slots := 4, locals := 0 } : Room) s m #[(.long x0), (.int (4 : Int32))] below meth c s₁ [] 0 0 := Stand.of_body Bd
  have e0 : s₁.heap = h0 := by rw [← hh, Bd.state]; rfl
  have N0 := Fr.nil n0
  refine own_cast (P := own_End s (Q_pw4 Z x0 h0 n0) ({ frames := 0, cells := 1, slots := 4, locals := 0 } : Room).cells ({ frames := 0, cells := 1, slots := 4, locals := 0 } : Room).slots) (ef_pw4 m x0) ?_
  refine g_iloadN X0 hx hby d_pw4_0 rfl (rfl : 0 + 1 = 1) ?_
  obtain ⟨T11, h11, k11, X11, e11, E11, A11, B11, st11⟩ := newPE X0 hx hZ (hw _ (List.mem_of_getElem? (i := 4) rfl)) e0 (g := (mkF m 1 #[.val (.long x0), .second, .val (.int (4 : Int32)), .unset, .unset, .unset, .unset] [(.int (4 : Int32))])) rfl (hb hby d_pw4_1) rfl (by decide) (cap := 4) (by decide) (by decide) (by decide) (by decide) (ad := "[J") (by decide +kernel)
  obtain ⟨b11, g11⟩ : ∃ z, z = h0.size := ⟨_, rfl⟩
  rw [← g11] at A11 B11 st11
  have Z11 : n0 ≤ h11.size := Nat.le_trans Z0 E11.1
  have K11 : Keep h0 h11 [] := (Keep.refl h0 []).ext E11
  have ge11 : n0 ≤ b11 := Nat.le_trans Z0 (Nat.le_of_eq g11.symm)
  have sz11 : h0.size ≤ b11 := Nat.le_trans (Keep.refl h0 []).1 (Nat.le_of_eq g11.symm)
  have V11 : Arv Z h11 b11 k11 .long (4 : Int32) [(.long (0 : Int64)), (.long (0 : Int64)), (.long (0 : Int64)), (.long (0 : Int64))] (.long (0 : Int64)) := (Arv.new A11 (by decide)).pad (pad_rep [] _ 4)
  refine own_go st11 ?_
  show own_Got p e below _ T11 (mkF m 3 #[.val (.long x0), .second, .val (.int (4 : Int32)), .unset, .unset, .unset, .unset] [(.ref b11)])
  refine g_astoreN X11 hx hby #[.val (.long x0), .second, .val (.int (4 : Int32)), .val (.ref b11), .unset, .unset, .unset] d_pw4_3 rfl rfl (rfl : 3 + 1 = 4) ?_
  refine g_lconst X11 hx hby (1 : Int64) d_pw4_4 (by decide) (rfl : 4 + 1 = 5) ?_
  refine g_lstore X11 hx hby #[.val (.long x0), .second, .val (.int (4 : Int32)), .val (.ref b11), .val (.long (1 : Int64)), .second, .unset] d_pw4_5 rfl (rfl : 5 + 2 = 7) ?_
  refine g_iconst X11 hx hby (0 : Int32) d_pw4_7 (by decide) (rfl : 7 + 1 = 8) ?_
  refine g_istore X11 hx hby #[.val (.long x0), .second, .val (.int (4 : Int32)), .val (.ref b11), .val (.long (1 : Int64)), .second, .val (.int (0 : Int32))] d_pw4_8 rfl (rfl : 8 + 2 = 10) ?_
  refine g_iload X11 hx hby d_pw4_10 rfl (rfl : 10 + 2 = 12) ?_
  refine g_iloadN X11 hx hby d_pw4_12 rfl (rfl : 12 + 1 = 13) ?_
  refine g_icF X11 hx hby d_pw4_13 (tlt (by decide : (0 : Int32) < (4 : Int32))).2.1 (rfl : 13 + 3 = 16) ?_
  refine g_aloadN X11 hx hby d_pw4_16 rfl rfl (rfl : 16 + 1 = 17) ?_
  refine g_iload X11 hx hby d_pw4_17 rfl (rfl : 17 + 2 = 19) ?_
  refine g_lload X11 hx hby d_pw4_19 rfl (rfl : 19 + 2 = 21) ?_
  obtain ⟨T12, h12, X12, e12, W12, V12, st12⟩ := a_lastore X11 hx hby hZ e11 (ls := #[.val (.long x0), .second, .val (.int (4 : Int32)), .val (.ref b11), .val (.long (1 : Int64)), .second, .val (.int (0 : Int32))]) (st := []) (j := (0 : Int32)) (1 : Int64) 0 V11 ⟨by decide, by decide⟩ (by decide) (Nat.le_of_ble_eq_true rfl) d_pw4_21
  have Z12 : n0 ≤ h12.size := Nat.le_trans Z11 (Keep.of_wr W12).1
  have N12 := Fr.snoc X12 N0 ge11
  have K12 : Keep h0 h12 [] := K11.wr W12 (Or.inr sz11)
  have V12' : Arv Z h12 b11 k11 .long (4 : Int32) [(.long (1 : Int64)), (.long (0 : Int64)), (.long (0 : Int64)), (.long (0 : Int64))] (.long (0 : Int64)) := V12
  refine own_go st12 ?_
  show own_Got p e below _ T12 (mkF m 22 #[.val (.long x0), .second, .val (.int (4 : Int32)), .val (.ref b11), .val (.long (1 : Int64)), .second, .val (.int (0 : Int32))] [])
  refine g_lload X12 hx hby d_pw4_22 rfl (rfl : 22 + 2 = 24) ?_
  refine g_lloadN X12 hx hby d_pw4_24 rfl (rfl : 24 + 1 = 25) ?_
  refine g_lmul X12 hx hby d_pw4_25 (rfl : 25 + 1 = 26) ?_
  refine g_lstore X12 hx hby #[.val (.long x0), .second, .val (.int (4 : Int32)), .val (.ref b11), .val (.long ((1 : Int64) * x0)), .second, .val (.int (0 : Int32))] d_pw4_26 rfl (rfl : 26 + 2 = 28) ?_
  refine g_iinc X12 hx hby #[.val (.long x0), .second, .val (.int (4 : Int32)), .val (.ref b11), .val (.long ((1 : Int64) * x0)), .second, .val (.int ((0 : Int32) + (1 : Int32)))] d_pw4_28 rfl rfl (rfl : 28 + 3 = 31) ?_
  rw [(by decide : ((0 : Int32) + (1 : Int32)) = (1 : Int32))]
  refine g_goto X12 hx hby d_pw4_31 (by decide) (pc' := 10) (by decide) ?_
  refine g_iload X12 hx hby d_pw4_10 rfl (rfl : 10 + 2 = 12) ?_
  refine g_iloadN X12 hx hby d_pw4_12 rfl (rfl : 12 + 1 = 13) ?_
  refine g_icF X12 hx hby d_pw4_13 (tlt (by decide : (1 : Int32) < (4 : Int32))).2.1 (rfl : 13 + 3 = 16) ?_
  refine g_aloadN X12 hx hby d_pw4_16 rfl rfl (rfl : 16 + 1 = 17) ?_
  refine g_iload X12 hx hby d_pw4_17 rfl (rfl : 17 + 2 = 19) ?_
  refine g_lload X12 hx hby d_pw4_19 rfl (rfl : 19 + 2 = 21) ?_
  obtain ⟨T13, h13, X13, e13, W13, V13, st13⟩ := a_lastore X12 hx hby hZ e12 (ls := #[.val (.long x0), .second, .val (.int (4 : Int32)), .val (.ref b11), .val (.long ((1 : Int64) * x0)), .second, .val (.int (1 : Int32))]) (st := []) (j := (1 : Int32)) ((1 : Int64) * x0) 1 V12' ⟨by decide, by decide⟩ (by decide) (Nat.le_of_ble_eq_true rfl) d_pw4_21
  have Z13 : n0 ≤ h13.size := Nat.le_trans Z12 (Keep.of_wr W13).1
  have N13 := Fr.snoc X13 N12 ge11
  have K13 : Keep h0 h13 [] := K12.wr W13 (Or.inr sz11)
  have V13' : Arv Z h13 b11 k11 .long (4 : Int32) [(.long (1 : Int64)), (.long ((1 : Int64) * x0)), (.long (0 : Int64)), (.long (0 : Int64))] (.long (0 : Int64)) := V13
  refine own_go st13 ?_
  show own_Got p e below _ T13 (mkF m 22 #[.val (.long x0), .second, .val (.int (4 : Int32)), .val (.ref b11), .val (.long ((1 : Int64) * x0)), .second, .val (.int (1 : Int32))] [])
  refine g_lload X13 hx hby d_pw4_22 rfl (rfl : 22 + 2 = 24) ?_
  refine g_lloadN X13 hx hby d_pw4_24 rfl (rfl : 24 + 1 = 25) ?_
  refine g_lmul X13 hx hby d_pw4_25 (rfl : 25 + 1 = 26) ?_
  refine g_lstore X13 hx hby #[.val (.long x0), .second, .val (.int (4 : Int32)), .val (.ref b11), .val (.long (((1 : Int64) * x0) * x0)), .second, .val (.int (1 : Int32))] d_pw4_26 rfl (rfl : 26 + 2 = 28) ?_
  refine g_iinc X13 hx hby #[.val (.long x0), .second, .val (.int (4 : Int32)), .val (.ref b11), .val (.long (((1 : Int64) * x0) * x0)), .second, .val (.int ((1 : Int32) + (1 : Int32)))] d_pw4_28 rfl rfl (rfl : 28 + 3 = 31) ?_
  rw [(by decide : ((1 : Int32) + (1 : Int32)) = (2 : Int32))]
  refine g_goto X13 hx hby d_pw4_31 (by decide) (pc' := 10) (by decide) ?_
  refine g_iload X13 hx hby d_pw4_10 rfl (rfl : 10 + 2 = 12) ?_
  refine g_iloadN X13 hx hby d_pw4_12 rfl (rfl : 12 + 1 = 13) ?_
  refine g_icF X13 hx hby d_pw4_13 (tlt (by decide : (2 : Int32) < (4 : Int32))).2.1 (rfl : 13 + 3 = 16) ?_
  refine g_aloadN X13 hx hby d_pw4_16 rfl rfl (rfl : 16 + 1 = 17) ?_
  refine g_iload X13 hx hby d_pw4_17 rfl (rfl : 17 + 2 = 19) ?_
  refine g_lload X13 hx hby d_pw4_19 rfl (rfl : 19 + 2 = 21) ?_
  obtain ⟨T14, h14, X14, e14, W14, V14, st14⟩ := a_lastore X13 hx hby hZ e13 (ls := #[.val (.long x0), .second, .val (.int (4 : Int32)), .val (.ref b11), .val (.long (((1 : Int64) * x0) * x0)), .second, .val (.int (2 : Int32))]) (st := []) (j := (2 : Int32)) (((1 : Int64) * x0) * x0) 2 V13' ⟨by decide, by decide⟩ (by decide) (Nat.le_of_ble_eq_true rfl) d_pw4_21
  have Z14 : n0 ≤ h14.size := Nat.le_trans Z13 (Keep.of_wr W14).1
  have N14 := Fr.snoc X14 N13 ge11
  have K14 : Keep h0 h14 [] := K13.wr W14 (Or.inr sz11)
  have V14' : Arv Z h14 b11 k11 .long (4 : Int32) [(.long (1 : Int64)), (.long ((1 : Int64) * x0)), (.long (((1 : Int64) * x0) * x0)), (.long (0 : Int64))] (.long (0 : Int64)) := V14
  refine own_go st14 ?_
  show own_Got p e below _ T14 (mkF m 22 #[.val (.long x0), .second, .val (.int (4 : Int32)), .val (.ref b11), .val (.long (((1 : Int64) * x0) * x0)), .second, .val (.int (2 : Int32))] [])
  refine g_lload X14 hx hby d_pw4_22 rfl (rfl : 22 + 2 = 24) ?_
  refine g_lloadN X14 hx hby d_pw4_24 rfl (rfl : 24 + 1 = 25) ?_
  refine g_lmul X14 hx hby d_pw4_25 (rfl : 25 + 1 = 26) ?_
  refine g_lstore X14 hx hby #[.val (.long x0), .second, .val (.int (4 : Int32)), .val (.ref b11), .val (.long ((((1 : Int64) * x0) * x0) * x0)), .second, .val (.int (2 : Int32))] d_pw4_26 rfl (rfl : 26 + 2 = 28) ?_
  refine g_iinc X14 hx hby #[.val (.long x0), .second, .val (.int (4 : Int32)), .val (.ref b11), .val (.long ((((1 : Int64) * x0) * x0) * x0)), .second, .val (.int ((2 : Int32) + (1 : Int32)))] d_pw4_28 rfl rfl (rfl : 28 + 3 = 31) ?_
  rw [(by decide : ((2 : Int32) + (1 : Int32)) = (3 : Int32))]
  refine g_goto X14 hx hby d_pw4_31 (by decide) (pc' := 10) (by decide) ?_
  refine g_iload X14 hx hby d_pw4_10 rfl (rfl : 10 + 2 = 12) ?_
  refine g_iloadN X14 hx hby d_pw4_12 rfl (rfl : 12 + 1 = 13) ?_
  refine g_icF X14 hx hby d_pw4_13 (tlt (by decide : (3 : Int32) < (4 : Int32))).2.1 (rfl : 13 + 3 = 16) ?_
  refine g_aloadN X14 hx hby d_pw4_16 rfl rfl (rfl : 16 + 1 = 17) ?_
  refine g_iload X14 hx hby d_pw4_17 rfl (rfl : 17 + 2 = 19) ?_
  refine g_lload X14 hx hby d_pw4_19 rfl (rfl : 19 + 2 = 21) ?_
  obtain ⟨T15, h15, X15, e15, W15, V15, st15⟩ := a_lastore X14 hx hby hZ e14 (ls := #[.val (.long x0), .second, .val (.int (4 : Int32)), .val (.ref b11), .val (.long ((((1 : Int64) * x0) * x0) * x0)), .second, .val (.int (3 : Int32))]) (st := []) (j := (3 : Int32)) ((((1 : Int64) * x0) * x0) * x0) 3 V14' ⟨by decide, by decide⟩ (by decide) (Nat.le_of_ble_eq_true rfl) d_pw4_21
  have Z15 : n0 ≤ h15.size := Nat.le_trans Z14 (Keep.of_wr W15).1
  have N15 := Fr.snoc X15 N14 ge11
  have K15 : Keep h0 h15 [] := K14.wr W15 (Or.inr sz11)
  have V15' : Arv Z h15 b11 k11 .long (4 : Int32) [(.long (1 : Int64)), (.long ((1 : Int64) * x0)), (.long (((1 : Int64) * x0) * x0)), (.long ((((1 : Int64) * x0) * x0) * x0))] (.long (0 : Int64)) := V15
  refine own_go st15 ?_
  show own_Got p e below _ T15 (mkF m 22 #[.val (.long x0), .second, .val (.int (4 : Int32)), .val (.ref b11), .val (.long ((((1 : Int64) * x0) * x0) * x0)), .second, .val (.int (3 : Int32))] [])
  refine g_lload X15 hx hby d_pw4_22 rfl (rfl : 22 + 2 = 24) ?_
  refine g_lloadN X15 hx hby d_pw4_24 rfl (rfl : 24 + 1 = 25) ?_
  refine g_lmul X15 hx hby d_pw4_25 (rfl : 25 + 1 = 26) ?_
  refine g_lstore X15 hx hby #[.val (.long x0), .second, .val (.int (4 : Int32)), .val (.ref b11), .val (.long (((((1 : Int64) * x0) * x0) * x0) * x0)), .second, .val (.int (3 : Int32))] d_pw4_26 rfl (rfl : 26 + 2 = 28) ?_
  refine g_iinc X15 hx hby #[.val (.long x0), .second, .val (.int (4 : Int32)), .val (.ref b11), .val (.long (((((1 : Int64) * x0) * x0) * x0) * x0)), .second, .val (.int ((3 : Int32) + (1 : Int32)))] d_pw4_28 rfl rfl (rfl : 28 + 3 = 31) ?_
  rw [(by decide : ((3 : Int32) + (1 : Int32)) = (4 : Int32))]
  refine g_goto X15 hx hby d_pw4_31 (by decide) (pc' := 10) (by decide) ?_
  refine g_iload X15 hx hby d_pw4_10 rfl (rfl : 10 + 2 = 12) ?_
  refine g_iloadN X15 hx hby d_pw4_12 rfl (rfl : 12 + 1 = 13) ?_
  refine g_icT X15 hx hby d_pw4_13 (flt (by decide : ¬ ((4 : Int32) < (4 : Int32)))).2.1 (by decide) (pc' := 34) (by decide) ?_
  refine g_aloadN X15 hx hby d_pw4_34 rfl rfl (rfl : 34 + 1 = 35) ?_
  refine own_retR X15 hx hby hlk hrt rfl d_pw4_35 (by decide) (by decide) rfl ?_
  show Q_pw4 Z x0 h0 n0 _ T15.heap _
  rw [e15]
  exact ⟨b11, k11, rfl, N15, K15, sz11, V15'⟩
theorem d_pw5_0 : decode prog_35_method_8_code 0 = .ok (.iload_n 2, 1) := by decide +kernel
theorem d_pw5_1 : decode prog_35_method_8_code 1 = .ok (.newarray .long, 2) := by decide +kernel
theorem d_pw5_3 : decode prog_35_method_8_code 3 = .ok (.astore_n 3, 1) := by decide +kernel
theorem d_pw5_4 : decode prog_35_method_8_code 4 = .ok (.lconst 1, 1) := by decide +kernel
theorem d_pw5_5 : decode prog_35_method_8_code 5 = .ok (.lstore 4, 2) := by decide +kernel
theorem d_pw5_7 : decode prog_35_method_8_code 7 = .ok (.iconst 0, 1) := by decide +kernel
theorem d_pw5_8 : decode prog_35_method_8_code 8 = .ok (.istore 6, 2) := by decide +kernel
theorem d_pw5_10 : decode prog_35_method_8_code 10 = .ok (.iload 6, 2) := by decide +kernel
theorem d_pw5_12 : decode prog_35_method_8_code 12 = .ok (.iload_n 2, 1) := by decide +kernel
theorem d_pw5_13 : decode prog_35_method_8_code 13 = .ok (.if_icmp .ge 21, 3) := by decide +kernel
theorem d_pw5_16 : decode prog_35_method_8_code 16 = .ok (.aload_n 3, 1) := by decide +kernel
theorem d_pw5_17 : decode prog_35_method_8_code 17 = .ok (.iload 6, 2) := by decide +kernel
theorem d_pw5_19 : decode prog_35_method_8_code 19 = .ok (.lload 4, 2) := by decide +kernel
theorem d_pw5_21 : decode prog_35_method_8_code 21 = .ok (.lastore, 1) := by decide +kernel
theorem d_pw5_22 : decode prog_35_method_8_code 22 = .ok (.lload 4, 2) := by decide +kernel
theorem d_pw5_24 : decode prog_35_method_8_code 24 = .ok (.lload_n 0, 1) := by decide +kernel
theorem d_pw5_25 : decode prog_35_method_8_code 25 = .ok (.lmul, 1) := by decide +kernel
theorem d_pw5_26 : decode prog_35_method_8_code 26 = .ok (.lstore 4, 2) := by decide +kernel
theorem d_pw5_28 : decode prog_35_method_8_code 28 = .ok (.iinc 6 1, 3) := by decide +kernel
theorem d_pw5_31 : decode prog_35_method_8_code 31 = .ok (.goto (-21), 3) := by decide +kernel
theorem d_pw5_34 : decode prog_35_method_8_code 34 = .ok (.aload_n 3, 1) := by decide +kernel
theorem d_pw5_35 : decode prog_35_method_8_code 35 = .ok (.areturn, 1) := by decide +kernel
theorem ef_pw5 (m : MethodId) (x0 : Int64) : entryFrame m #[(.long x0), (.int (5 : Int32))] 7 = mkF m 0 #[.val (.long x0), .second, .val (.int (5 : Int32)), .unset, .unset, .unset, .unset] [] := by first | (simp [entryFrame, mkF, argsToLocals, Value.category]; done) | rfl
def Q_pw5 (Z : State) (x0 : Int64) (h0 : Heap) (n0 : Nat) (v : Option Value) (h : Heap) (L : List Loc) : Prop := ∃ (b : Addr), ∃ (kk : ClassId), v = some (.ref b) ∧ Fr n0 L ∧ Keep h0 h [] ∧ h0.size ≤ b ∧ Arv Z h b kk .long (5 : Int32) [(.long (1 : Int64)), (.long ((1 : Int64) * x0)), (.long (((1 : Int64) * x0) * x0)), (.long ((((1 : Int64) * x0) * x0) * x0)), (.long (((((1 : Int64) * x0) * x0) * x0) * x0))] (.long (0 : Int64))
set_option maxRecDepth 65536 in
set_option maxHeartbeats 40000000 in
theorem rm_pw5 (l : Launch) (Z : State) (a0 : Array Value) (hw : ∀ d ∈ tables_1, d.before a0 Z = true) (ws : List Jvm.Cond) (x0 : Int64) (h0 : Heap) (n0 : Nat) (Z0 : n0 ≤ h0.size) :
    MetFree l (⟨"com/example/markov_lumper/markovlumper/decimal/Scaling", "powers", "(JI)[J"⟩ : MethodName) (head1 (Jvm.Cond.code (⟨"com/example/markov_lumper/markovlumper/decimal/Scaling", "powers", "(JI)[J"⟩ : MethodName) prog_35_method_8_code 7 (some (.array .long)) :: ws) ({ frames := 0, cells := 1, slots := 5, locals := 0 } : Room)) (fun a U => a = #[(.long x0), (.int (5 : Int32))] ∧ Z.Warmed39 U.vm ∧ U.heap = h0) (fun _ _ _ _ _ => True) (fun _ U o U' => ∃ v L, o = .returned v ∧ Q_pw5 Z x0 h0 n0 v U'.heap L ∧ FrameEnd U o U' L ({ frames := 0, cells := 1, slots := 5, locals := 0 } : Room).cells ({ frames := 0, cells := 1, slots := 5, locals := 0 } : Room).slots) := by
  refine MetFree.of_bodySF (plainFor_of_name pn0) hisR ?_
  intro p e s m args below meth c s₁ Bd hml0 hP hK
  obtain ⟨rfl, hZ, hh⟩ := hP
  have hx := Bd.exec
  have hby := Bd.bytes
  have hml : c.maxLocals = 7 := hml0
  have hown : s.vm.findClass "com/example/markov_lumper/markovlumper/decimal/Scaling" = some m.cls := findClass_of_methodNamed Bd.named
  have hnm := (name_of_methodNamed Bd.named Bd.method).1
  have hlk := Bd.notSynchronized
  have hrt := Bd.returns
  have X0 : Stand p l e ({ frames := 0, cells := 1, slots := 5, locals := 0 } : Room) s m #[(.long x0), (.int (5 : Int32))] below meth c s₁ [] 0 0 := Stand.of_body Bd
  have e0 : s₁.heap = h0 := by rw [← hh, Bd.state]; rfl
  have N0 := Fr.nil n0
  refine own_cast (P := own_End s (Q_pw5 Z x0 h0 n0) ({ frames := 0, cells := 1, slots := 5, locals := 0 } : Room).cells ({ frames := 0, cells := 1, slots := 5, locals := 0 } : Room).slots) (ef_pw5 m x0) ?_
  refine g_iloadN X0 hx hby d_pw5_0 rfl (rfl : 0 + 1 = 1) ?_
  obtain ⟨T16, h16, k16, X16, e16, E16, A16, B16, st16⟩ := newPE X0 hx hZ (hw _ (List.mem_of_getElem? (i := 4) rfl)) e0 (g := (mkF m 1 #[.val (.long x0), .second, .val (.int (5 : Int32)), .unset, .unset, .unset, .unset] [(.int (5 : Int32))])) rfl (hb hby d_pw5_1) rfl (by decide) (cap := 5) (by decide) (by decide) (by decide) (by decide) (ad := "[J") (by decide +kernel)
  obtain ⟨b16, g16⟩ : ∃ z, z = h0.size := ⟨_, rfl⟩
  rw [← g16] at A16 B16 st16
  have Z16 : n0 ≤ h16.size := Nat.le_trans Z0 E16.1
  have K16 : Keep h0 h16 [] := (Keep.refl h0 []).ext E16
  have ge16 : n0 ≤ b16 := Nat.le_trans Z0 (Nat.le_of_eq g16.symm)
  have sz16 : h0.size ≤ b16 := Nat.le_trans (Keep.refl h0 []).1 (Nat.le_of_eq g16.symm)
  have V16 : Arv Z h16 b16 k16 .long (5 : Int32) [(.long (0 : Int64)), (.long (0 : Int64)), (.long (0 : Int64)), (.long (0 : Int64)), (.long (0 : Int64))] (.long (0 : Int64)) := (Arv.new A16 (by decide)).pad (pad_rep [] _ 5)
  refine own_go st16 ?_
  show own_Got p e below _ T16 (mkF m 3 #[.val (.long x0), .second, .val (.int (5 : Int32)), .unset, .unset, .unset, .unset] [(.ref b16)])
  refine g_astoreN X16 hx hby #[.val (.long x0), .second, .val (.int (5 : Int32)), .val (.ref b16), .unset, .unset, .unset] d_pw5_3 rfl rfl (rfl : 3 + 1 = 4) ?_
  refine g_lconst X16 hx hby (1 : Int64) d_pw5_4 (by decide) (rfl : 4 + 1 = 5) ?_
  refine g_lstore X16 hx hby #[.val (.long x0), .second, .val (.int (5 : Int32)), .val (.ref b16), .val (.long (1 : Int64)), .second, .unset] d_pw5_5 rfl (rfl : 5 + 2 = 7) ?_
  refine g_iconst X16 hx hby (0 : Int32) d_pw5_7 (by decide) (rfl : 7 + 1 = 8) ?_
  refine g_istore X16 hx hby #[.val (.long x0), .second, .val (.int (5 : Int32)), .val (.ref b16), .val (.long (1 : Int64)), .second, .val (.int (0 : Int32))] d_pw5_8 rfl (rfl : 8 + 2 = 10) ?_
  refine g_iload X16 hx hby d_pw5_10 rfl (rfl : 10 + 2 = 12) ?_
  refine g_iloadN X16 hx hby d_pw5_12 rfl (rfl : 12 + 1 = 13) ?_
  refine g_icF X16 hx hby d_pw5_13 (tlt (by decide : (0 : Int32) < (5 : Int32))).2.1 (rfl : 13 + 3 = 16) ?_
  refine g_aloadN X16 hx hby d_pw5_16 rfl rfl (rfl : 16 + 1 = 17) ?_
  refine g_iload X16 hx hby d_pw5_17 rfl (rfl : 17 + 2 = 19) ?_
  refine g_lload X16 hx hby d_pw5_19 rfl (rfl : 19 + 2 = 21) ?_
  obtain ⟨T17, h17, X17, e17, W17, V17, st17⟩ := a_lastore X16 hx hby hZ e16 (ls := #[.val (.long x0), .second, .val (.int (5 : Int32)), .val (.ref b16), .val (.long (1 : Int64)), .second, .val (.int (0 : Int32))]) (st := []) (j := (0 : Int32)) (1 : Int64) 0 V16 ⟨by decide, by decide⟩ (by decide) (Nat.le_of_ble_eq_true rfl) d_pw5_21
  have Z17 : n0 ≤ h17.size := Nat.le_trans Z16 (Keep.of_wr W17).1
  have N17 := Fr.snoc X17 N0 ge16
  have K17 : Keep h0 h17 [] := K16.wr W17 (Or.inr sz16)
  have V17' : Arv Z h17 b16 k16 .long (5 : Int32) [(.long (1 : Int64)), (.long (0 : Int64)), (.long (0 : Int64)), (.long (0 : Int64)), (.long (0 : Int64))] (.long (0 : Int64)) := V17
  refine own_go st17 ?_
  show own_Got p e below _ T17 (mkF m 22 #[.val (.long x0), .second, .val (.int (5 : Int32)), .val (.ref b16), .val (.long (1 : Int64)), .second, .val (.int (0 : Int32))] [])
  refine g_lload X17 hx hby d_pw5_22 rfl (rfl : 22 + 2 = 24) ?_
  refine g_lloadN X17 hx hby d_pw5_24 rfl (rfl : 24 + 1 = 25) ?_
  refine g_lmul X17 hx hby d_pw5_25 (rfl : 25 + 1 = 26) ?_
  refine g_lstore X17 hx hby #[.val (.long x0), .second, .val (.int (5 : Int32)), .val (.ref b16), .val (.long ((1 : Int64) * x0)), .second, .val (.int (0 : Int32))] d_pw5_26 rfl (rfl : 26 + 2 = 28) ?_
  refine g_iinc X17 hx hby #[.val (.long x0), .second, .val (.int (5 : Int32)), .val (.ref b16), .val (.long ((1 : Int64) * x0)), .second, .val (.int ((0 : Int32) + (1 : Int32)))] d_pw5_28 rfl rfl (rfl : 28 + 3 = 31) ?_
  rw [(by decide : ((0 : Int32) + (1 : Int32)) = (1 : Int32))]
  refine g_goto X17 hx hby d_pw5_31 (by decide) (pc' := 10) (by decide) ?_
  refine g_iload X17 hx hby d_pw5_10 rfl (rfl : 10 + 2 = 12) ?_
  refine g_iloadN X17 hx hby d_pw5_12 rfl (rfl : 12 + 1 = 13) ?_
  refine g_icF X17 hx hby d_pw5_13 (tlt (by decide : (1 : Int32) < (5 : Int32))).2.1 (rfl : 13 + 3 = 16) ?_
  refine g_aloadN X17 hx hby d_pw5_16 rfl rfl (rfl : 16 + 1 = 17) ?_
  refine g_iload X17 hx hby d_pw5_17 rfl (rfl : 17 + 2 = 19) ?_
  refine g_lload X17 hx hby d_pw5_19 rfl (rfl : 19 + 2 = 21) ?_
  obtain ⟨T18, h18, X18, e18, W18, V18, st18⟩ := a_lastore X17 hx hby hZ e17 (ls := #[.val (.long x0), .second, .val (.int (5 : Int32)), .val (.ref b16), .val (.long ((1 : Int64) * x0)), .second, .val (.int (1 : Int32))]) (st := []) (j := (1 : Int32)) ((1 : Int64) * x0) 1 V17' ⟨by decide, by decide⟩ (by decide) (Nat.le_of_ble_eq_true rfl) d_pw5_21
  have Z18 : n0 ≤ h18.size := Nat.le_trans Z17 (Keep.of_wr W18).1
  have N18 := Fr.snoc X18 N17 ge16
  have K18 : Keep h0 h18 [] := K17.wr W18 (Or.inr sz16)
  have V18' : Arv Z h18 b16 k16 .long (5 : Int32) [(.long (1 : Int64)), (.long ((1 : Int64) * x0)), (.long (0 : Int64)), (.long (0 : Int64)), (.long (0 : Int64))] (.long (0 : Int64)) := V18
  refine own_go st18 ?_
  show own_Got p e below _ T18 (mkF m 22 #[.val (.long x0), .second, .val (.int (5 : Int32)), .val (.ref b16), .val (.long ((1 : Int64) * x0)), .second, .val (.int (1 : Int32))] [])
  refine g_lload X18 hx hby d_pw5_22 rfl (rfl : 22 + 2 = 24) ?_
  refine g_lloadN X18 hx hby d_pw5_24 rfl (rfl : 24 + 1 = 25) ?_
  refine g_lmul X18 hx hby d_pw5_25 (rfl : 25 + 1 = 26) ?_
  refine g_lstore X18 hx hby #[.val (.long x0), .second, .val (.int (5 : Int32)), .val (.ref b16), .val (.long (((1 : Int64) * x0) * x0)), .second, .val (.int (1 : Int32))] d_pw5_26 rfl (rfl : 26 + 2 = 28) ?_
  refine g_iinc X18 hx hby #[.val (.long x0), .second, .val (.int (5 : Int32)), .val (.ref b16), .val (.long (((1 : Int64) * x0) * x0)), .second, .val (.int ((1 : Int32) + (1 : Int32)))] d_pw5_28 rfl rfl (rfl : 28 + 3 = 31) ?_
  rw [(by decide : ((1 : Int32) + (1 : Int32)) = (2 : Int32))]
  refine g_goto X18 hx hby d_pw5_31 (by decide) (pc' := 10) (by decide) ?_
  refine g_iload X18 hx hby d_pw5_10 rfl (rfl : 10 + 2 = 12) ?_
  refine g_iloadN X18 hx hby d_pw5_12 rfl (rfl : 12 + 1 = 13) ?_
  refine g_icF X18 hx hby d_pw5_13 (tlt (by decide : (2 : Int32) < (5 : Int32))).2.1 (rfl : 13 + 3 = 16) ?_
  refine g_aloadN X18 hx hby d_pw5_16 rfl rfl (rfl : 16 + 1 = 17) ?_
  refine g_iload X18 hx hby d_pw5_17 rfl (rfl : 17 + 2 = 19) ?_
  refine g_lload X18 hx hby d_pw5_19 rfl (rfl : 19 + 2 = 21) ?_
  obtain ⟨T19, h19, X19, e19, W19, V19, st19⟩ := a_lastore X18 hx hby hZ e18 (ls := #[.val (.long x0), .second, .val (.int (5 : Int32)), .val (.ref b16), .val (.long (((1 : Int64) * x0) * x0)), .second, .val (.int (2 : Int32))]) (st := []) (j := (2 : Int32)) (((1 : Int64) * x0) * x0) 2 V18' ⟨by decide, by decide⟩ (by decide) (Nat.le_of_ble_eq_true rfl) d_pw5_21
  have Z19 : n0 ≤ h19.size := Nat.le_trans Z18 (Keep.of_wr W19).1
  have N19 := Fr.snoc X19 N18 ge16
  have K19 : Keep h0 h19 [] := K18.wr W19 (Or.inr sz16)
  have V19' : Arv Z h19 b16 k16 .long (5 : Int32) [(.long (1 : Int64)), (.long ((1 : Int64) * x0)), (.long (((1 : Int64) * x0) * x0)), (.long (0 : Int64)), (.long (0 : Int64))] (.long (0 : Int64)) := V19
  refine own_go st19 ?_
  show own_Got p e below _ T19 (mkF m 22 #[.val (.long x0), .second, .val (.int (5 : Int32)), .val (.ref b16), .val (.long (((1 : Int64) * x0) * x0)), .second, .val (.int (2 : Int32))] [])
  refine g_lload X19 hx hby d_pw5_22 rfl (rfl : 22 + 2 = 24) ?_
  refine g_lloadN X19 hx hby d_pw5_24 rfl (rfl : 24 + 1 = 25) ?_
  refine g_lmul X19 hx hby d_pw5_25 (rfl : 25 + 1 = 26) ?_
  refine g_lstore X19 hx hby #[.val (.long x0), .second, .val (.int (5 : Int32)), .val (.ref b16), .val (.long ((((1 : Int64) * x0) * x0) * x0)), .second, .val (.int (2 : Int32))] d_pw5_26 rfl (rfl : 26 + 2 = 28) ?_
  refine g_iinc X19 hx hby #[.val (.long x0), .second, .val (.int (5 : Int32)), .val (.ref b16), .val (.long ((((1 : Int64) * x0) * x0) * x0)), .second, .val (.int ((2 : Int32) + (1 : Int32)))] d_pw5_28 rfl rfl (rfl : 28 + 3 = 31) ?_
  rw [(by decide : ((2 : Int32) + (1 : Int32)) = (3 : Int32))]
  refine g_goto X19 hx hby d_pw5_31 (by decide) (pc' := 10) (by decide) ?_
  refine g_iload X19 hx hby d_pw5_10 rfl (rfl : 10 + 2 = 12) ?_
  refine g_iloadN X19 hx hby d_pw5_12 rfl (rfl : 12 + 1 = 13) ?_
  refine g_icF X19 hx hby d_pw5_13 (tlt (by decide : (3 : Int32) < (5 : Int32))).2.1 (rfl : 13 + 3 = 16) ?_
  refine g_aloadN X19 hx hby d_pw5_16 rfl rfl (rfl : 16 + 1 = 17) ?_
  refine g_iload X19 hx hby d_pw5_17 rfl (rfl : 17 + 2 = 19) ?_
  refine g_lload X19 hx hby d_pw5_19 rfl (rfl : 19 + 2 = 21) ?_
  obtain ⟨T20, h20, X20, e20, W20, V20, st20⟩ := a_lastore X19 hx hby hZ e19 (ls := #[.val (.long x0), .second, .val (.int (5 : Int32)), .val (.ref b16), .val (.long ((((1 : Int64) * x0) * x0) * x0)), .second, .val (.int (3 : Int32))]) (st := []) (j := (3 : Int32)) ((((1 : Int64) * x0) * x0) * x0) 3 V19' ⟨by decide, by decide⟩ (by decide) (Nat.le_of_ble_eq_true rfl) d_pw5_21
  have Z20 : n0 ≤ h20.size := Nat.le_trans Z19 (Keep.of_wr W20).1
  have N20 := Fr.snoc X20 N19 ge16
  have K20 : Keep h0 h20 [] := K19.wr W20 (Or.inr sz16)
  have V20' : Arv Z h20 b16 k16 .long (5 : Int32) [(.long (1 : Int64)), (.long ((1 : Int64) * x0)), (.long (((1 : Int64) * x0) * x0)), (.long ((((1 : Int64) * x0) * x0) * x0)), (.long (0 : Int64))] (.long (0 : Int64)) := V20
  refine own_go st20 ?_
  show own_Got p e below _ T20 (mkF m 22 #[.val (.long x0), .second, .val (.int (5 : Int32)), .val (.ref b16), .val (.long ((((1 : Int64) * x0) * x0) * x0)), .second, .val (.int (3 : Int32))] [])
  refine g_lload X20 hx hby d_pw5_22 rfl (rfl : 22 + 2 = 24) ?_
  refine g_lloadN X20 hx hby d_pw5_24 rfl (rfl : 24 + 1 = 25) ?_
  refine g_lmul X20 hx hby d_pw5_25 (rfl : 25 + 1 = 26) ?_
  refine g_lstore X20 hx hby #[.val (.long x0), .second, .val (.int (5 : Int32)), .val (.ref b16), .val (.long (((((1 : Int64) * x0) * x0) * x0) * x0)), .second, .val (.int (3 : Int32))] d_pw5_26 rfl (rfl : 26 + 2 = 28) ?_
  refine g_iinc X20 hx hby #[.val (.long x0), .second, .val (.int (5 : Int32)), .val (.ref b16), .val (.long (((((1 : Int64) * x0) * x0) * x0) * x0)), .second, .val (.int ((3 : Int32) + (1 : Int32)))] d_pw5_28 rfl rfl (rfl : 28 + 3 = 31) ?_
  rw [(by decide : ((3 : Int32) + (1 : Int32)) = (4 : Int32))]
  refine g_goto X20 hx hby d_pw5_31 (by decide) (pc' := 10) (by decide) ?_
  refine g_iload X20 hx hby d_pw5_10 rfl (rfl : 10 + 2 = 12) ?_
  refine g_iloadN X20 hx hby d_pw5_12 rfl (rfl : 12 + 1 = 13) ?_
  refine g_icF X20 hx hby d_pw5_13 (tlt (by decide : (4 : Int32) < (5 : Int32))).2.1 (rfl : 13 + 3 = 16) ?_
  refine g_aloadN X20 hx hby d_pw5_16 rfl rfl (rfl : 16 + 1 = 17) ?_
  refine g_iload X20 hx hby d_pw5_17 rfl (rfl : 17 + 2 = 19) ?_
  refine g_lload X20 hx hby d_pw5_19 rfl (rfl : 19 + 2 = 21) ?_
  obtain ⟨T21, h21, X21, e21, W21, V21, st21⟩ := a_lastore X20 hx hby hZ e20 (ls := #[.val (.long x0), .second, .val (.int (5 : Int32)), .val (.ref b16), .val (.long (((((1 : Int64) * x0) * x0) * x0) * x0)), .second, .val (.int (4 : Int32))]) (st := []) (j := (4 : Int32)) (((((1 : Int64) * x0) * x0) * x0) * x0) 4 V20' ⟨by decide, by decide⟩ (by decide) (Nat.le_of_ble_eq_true rfl) d_pw5_21
  have Z21 : n0 ≤ h21.size := Nat.le_trans Z20 (Keep.of_wr W21).1
  have N21 := Fr.snoc X21 N20 ge16
  have K21 : Keep h0 h21 [] := K20.wr W21 (Or.inr sz16)
  have V21' : Arv Z h21 b16 k16 .long (5 : Int32) [(.long (1 : Int64)), (.long ((1 : Int64) * x0)), (.long (((1 : Int64) * x0) * x0)), (.long ((((1 : Int64) * x0) * x0) * x0)), (.long (((((1 : Int64) * x0) * x0) * x0) * x0))] (.long (0 : Int64)) := V21
  refine own_go st21 ?_
  show own_Got p e below _ T21 (mkF m 22 #[.val (.long x0), .second, .val (.int (5 : Int32)), .val (.ref b16), .val (.long (((((1 : Int64) * x0) * x0) * x0) * x0)), .second, .val (.int (4 : Int32))] [])
  refine g_lload X21 hx hby d_pw5_22 rfl (rfl : 22 + 2 = 24) ?_
  refine g_lloadN X21 hx hby d_pw5_24 rfl (rfl : 24 + 1 = 25) ?_
  refine g_lmul X21 hx hby d_pw5_25 (rfl : 25 + 1 = 26) ?_
  refine g_lstore X21 hx hby #[.val (.long x0), .second, .val (.int (5 : Int32)), .val (.ref b16), .val (.long ((((((1 : Int64) * x0) * x0) * x0) * x0) * x0)), .second, .val (.int (4 : Int32))] d_pw5_26 rfl (rfl : 26 + 2 = 28) ?_
  refine g_iinc X21 hx hby #[.val (.long x0), .second, .val (.int (5 : Int32)), .val (.ref b16), .val (.long ((((((1 : Int64) * x0) * x0) * x0) * x0) * x0)), .second, .val (.int ((4 : Int32) + (1 : Int32)))] d_pw5_28 rfl rfl (rfl : 28 + 3 = 31) ?_
  rw [(by decide : ((4 : Int32) + (1 : Int32)) = (5 : Int32))]
  refine g_goto X21 hx hby d_pw5_31 (by decide) (pc' := 10) (by decide) ?_
  refine g_iload X21 hx hby d_pw5_10 rfl (rfl : 10 + 2 = 12) ?_
  refine g_iloadN X21 hx hby d_pw5_12 rfl (rfl : 12 + 1 = 13) ?_
  refine g_icT X21 hx hby d_pw5_13 (flt (by decide : ¬ ((5 : Int32) < (5 : Int32)))).2.1 (by decide) (pc' := 34) (by decide) ?_
  refine g_aloadN X21 hx hby d_pw5_34 rfl rfl (rfl : 34 + 1 = 35) ?_
  refine own_retR X21 hx hby hlk hrt rfl d_pw5_35 (by decide) (by decide) rfl ?_
  show Q_pw5 Z x0 h0 n0 _ T21.heap _
  rw [e21]
  exact ⟨b16, k16, rfl, N21, K21, sz16, V21'⟩
theorem d_pw6_0 : decode prog_35_method_8_code 0 = .ok (.iload_n 2, 1) := by decide +kernel
theorem d_pw6_1 : decode prog_35_method_8_code 1 = .ok (.newarray .long, 2) := by decide +kernel
theorem d_pw6_3 : decode prog_35_method_8_code 3 = .ok (.astore_n 3, 1) := by decide +kernel
theorem d_pw6_4 : decode prog_35_method_8_code 4 = .ok (.lconst 1, 1) := by decide +kernel
theorem d_pw6_5 : decode prog_35_method_8_code 5 = .ok (.lstore 4, 2) := by decide +kernel
theorem d_pw6_7 : decode prog_35_method_8_code 7 = .ok (.iconst 0, 1) := by decide +kernel
theorem d_pw6_8 : decode prog_35_method_8_code 8 = .ok (.istore 6, 2) := by decide +kernel
theorem d_pw6_10 : decode prog_35_method_8_code 10 = .ok (.iload 6, 2) := by decide +kernel
theorem d_pw6_12 : decode prog_35_method_8_code 12 = .ok (.iload_n 2, 1) := by decide +kernel
theorem d_pw6_13 : decode prog_35_method_8_code 13 = .ok (.if_icmp .ge 21, 3) := by decide +kernel
theorem d_pw6_16 : decode prog_35_method_8_code 16 = .ok (.aload_n 3, 1) := by decide +kernel
theorem d_pw6_17 : decode prog_35_method_8_code 17 = .ok (.iload 6, 2) := by decide +kernel
theorem d_pw6_19 : decode prog_35_method_8_code 19 = .ok (.lload 4, 2) := by decide +kernel
theorem d_pw6_21 : decode prog_35_method_8_code 21 = .ok (.lastore, 1) := by decide +kernel
theorem d_pw6_22 : decode prog_35_method_8_code 22 = .ok (.lload 4, 2) := by decide +kernel
theorem d_pw6_24 : decode prog_35_method_8_code 24 = .ok (.lload_n 0, 1) := by decide +kernel
theorem d_pw6_25 : decode prog_35_method_8_code 25 = .ok (.lmul, 1) := by decide +kernel
theorem d_pw6_26 : decode prog_35_method_8_code 26 = .ok (.lstore 4, 2) := by decide +kernel
theorem d_pw6_28 : decode prog_35_method_8_code 28 = .ok (.iinc 6 1, 3) := by decide +kernel
theorem d_pw6_31 : decode prog_35_method_8_code 31 = .ok (.goto (-21), 3) := by decide +kernel
theorem d_pw6_34 : decode prog_35_method_8_code 34 = .ok (.aload_n 3, 1) := by decide +kernel
theorem d_pw6_35 : decode prog_35_method_8_code 35 = .ok (.areturn, 1) := by decide +kernel
theorem ef_pw6 (m : MethodId) (x0 : Int64) : entryFrame m #[(.long x0), (.int (6 : Int32))] 7 = mkF m 0 #[.val (.long x0), .second, .val (.int (6 : Int32)), .unset, .unset, .unset, .unset] [] := by first | (simp [entryFrame, mkF, argsToLocals, Value.category]; done) | rfl
def Q_pw6 (Z : State) (x0 : Int64) (h0 : Heap) (n0 : Nat) (v : Option Value) (h : Heap) (L : List Loc) : Prop := ∃ (b : Addr), ∃ (kk : ClassId), v = some (.ref b) ∧ Fr n0 L ∧ Keep h0 h [] ∧ h0.size ≤ b ∧ Arv Z h b kk .long (6 : Int32) [(.long (1 : Int64)), (.long ((1 : Int64) * x0)), (.long (((1 : Int64) * x0) * x0)), (.long ((((1 : Int64) * x0) * x0) * x0)), (.long (((((1 : Int64) * x0) * x0) * x0) * x0)), (.long ((((((1 : Int64) * x0) * x0) * x0) * x0) * x0))] (.long (0 : Int64))
set_option maxRecDepth 65536 in
set_option maxHeartbeats 40000000 in
theorem rm_pw6 (l : Launch) (Z : State) (a0 : Array Value) (hw : ∀ d ∈ tables_1, d.before a0 Z = true) (ws : List Jvm.Cond) (x0 : Int64) (h0 : Heap) (n0 : Nat) (Z0 : n0 ≤ h0.size) :
    MetFree l (⟨"com/example/markov_lumper/markovlumper/decimal/Scaling", "powers", "(JI)[J"⟩ : MethodName) (head1 (Jvm.Cond.code (⟨"com/example/markov_lumper/markovlumper/decimal/Scaling", "powers", "(JI)[J"⟩ : MethodName) prog_35_method_8_code 7 (some (.array .long)) :: ws) ({ frames := 0, cells := 1, slots := 6, locals := 0 } : Room)) (fun a U => a = #[(.long x0), (.int (6 : Int32))] ∧ Z.Warmed39 U.vm ∧ U.heap = h0) (fun _ _ _ _ _ => True) (fun _ U o U' => ∃ v L, o = .returned v ∧ Q_pw6 Z x0 h0 n0 v U'.heap L ∧ FrameEnd U o U' L ({ frames := 0, cells := 1, slots := 6, locals := 0 } : Room).cells ({ frames := 0, cells := 1, slots := 6, locals := 0 } : Room).slots) := by
  refine MetFree.of_bodySF (plainFor_of_name pn0) hisR ?_
  intro p e s m args below meth c s₁ Bd hml0 hP hK
  obtain ⟨rfl, hZ, hh⟩ := hP
  have hx := Bd.exec
  have hby := Bd.bytes
  have hml : c.maxLocals = 7 := hml0
  have hown : s.vm.findClass "com/example/markov_lumper/markovlumper/decimal/Scaling" = some m.cls := findClass_of_methodNamed Bd.named
  have hnm := (name_of_methodNamed Bd.named Bd.method).1
  have hlk := Bd.notSynchronized
  have hrt := Bd.returns
  have X0 : Stand p l e ({ frames := 0, cells := 1, slots := 6, locals := 0 } : Room) s m #[(.long x0), (.int (6 : Int32))] below meth c s₁ [] 0 0 := Stand.of_body Bd
  have e0 : s₁.heap = h0 := by rw [← hh, Bd.state]; rfl
  have N0 := Fr.nil n0
  refine own_cast (P := own_End s (Q_pw6 Z x0 h0 n0) ({ frames := 0, cells := 1, slots := 6, locals := 0 } : Room).cells ({ frames := 0, cells := 1, slots := 6, locals := 0 } : Room).slots) (ef_pw6 m x0) ?_
  refine g_iloadN X0 hx hby d_pw6_0 rfl (rfl : 0 + 1 = 1) ?_
  obtain ⟨T22, h22, k22, X22, e22, E22, A22, B22, st22⟩ := newPE X0 hx hZ (hw _ (List.mem_of_getElem? (i := 4) rfl)) e0 (g := (mkF m 1 #[.val (.long x0), .second, .val (.int (6 : Int32)), .unset, .unset, .unset, .unset] [(.int (6 : Int32))])) rfl (hb hby d_pw6_1) rfl (by decide) (cap := 6) (by decide) (by decide) (by decide) (by decide) (ad := "[J") (by decide +kernel)
  obtain ⟨b22, g22⟩ : ∃ z, z = h0.size := ⟨_, rfl⟩
  rw [← g22] at A22 B22 st22
  have Z22 : n0 ≤ h22.size := Nat.le_trans Z0 E22.1
  have K22 : Keep h0 h22 [] := (Keep.refl h0 []).ext E22
  have ge22 : n0 ≤ b22 := Nat.le_trans Z0 (Nat.le_of_eq g22.symm)
  have sz22 : h0.size ≤ b22 := Nat.le_trans (Keep.refl h0 []).1 (Nat.le_of_eq g22.symm)
  have V22 : Arv Z h22 b22 k22 .long (6 : Int32) [(.long (0 : Int64)), (.long (0 : Int64)), (.long (0 : Int64)), (.long (0 : Int64)), (.long (0 : Int64)), (.long (0 : Int64))] (.long (0 : Int64)) := (Arv.new A22 (by decide)).pad (pad_rep [] _ 6)
  refine own_go st22 ?_
  show own_Got p e below _ T22 (mkF m 3 #[.val (.long x0), .second, .val (.int (6 : Int32)), .unset, .unset, .unset, .unset] [(.ref b22)])
  refine g_astoreN X22 hx hby #[.val (.long x0), .second, .val (.int (6 : Int32)), .val (.ref b22), .unset, .unset, .unset] d_pw6_3 rfl rfl (rfl : 3 + 1 = 4) ?_
  refine g_lconst X22 hx hby (1 : Int64) d_pw6_4 (by decide) (rfl : 4 + 1 = 5) ?_
  refine g_lstore X22 hx hby #[.val (.long x0), .second, .val (.int (6 : Int32)), .val (.ref b22), .val (.long (1 : Int64)), .second, .unset] d_pw6_5 rfl (rfl : 5 + 2 = 7) ?_
  refine g_iconst X22 hx hby (0 : Int32) d_pw6_7 (by decide) (rfl : 7 + 1 = 8) ?_
  refine g_istore X22 hx hby #[.val (.long x0), .second, .val (.int (6 : Int32)), .val (.ref b22), .val (.long (1 : Int64)), .second, .val (.int (0 : Int32))] d_pw6_8 rfl (rfl : 8 + 2 = 10) ?_
  refine g_iload X22 hx hby d_pw6_10 rfl (rfl : 10 + 2 = 12) ?_
  refine g_iloadN X22 hx hby d_pw6_12 rfl (rfl : 12 + 1 = 13) ?_
  refine g_icF X22 hx hby d_pw6_13 (tlt (by decide : (0 : Int32) < (6 : Int32))).2.1 (rfl : 13 + 3 = 16) ?_
  refine g_aloadN X22 hx hby d_pw6_16 rfl rfl (rfl : 16 + 1 = 17) ?_
  refine g_iload X22 hx hby d_pw6_17 rfl (rfl : 17 + 2 = 19) ?_
  refine g_lload X22 hx hby d_pw6_19 rfl (rfl : 19 + 2 = 21) ?_
  obtain ⟨T23, h23, X23, e23, W23, V23, st23⟩ := a_lastore X22 hx hby hZ e22 (ls := #[.val (.long x0), .second, .val (.int (6 : Int32)), .val (.ref b22), .val (.long (1 : Int64)), .second, .val (.int (0 : Int32))]) (st := []) (j := (0 : Int32)) (1 : Int64) 0 V22 ⟨by decide, by decide⟩ (by decide) (Nat.le_of_ble_eq_true rfl) d_pw6_21
  have Z23 : n0 ≤ h23.size := Nat.le_trans Z22 (Keep.of_wr W23).1
  have N23 := Fr.snoc X23 N0 ge22
  have K23 : Keep h0 h23 [] := K22.wr W23 (Or.inr sz22)
  have V23' : Arv Z h23 b22 k22 .long (6 : Int32) [(.long (1 : Int64)), (.long (0 : Int64)), (.long (0 : Int64)), (.long (0 : Int64)), (.long (0 : Int64)), (.long (0 : Int64))] (.long (0 : Int64)) := V23
  refine own_go st23 ?_
  show own_Got p e below _ T23 (mkF m 22 #[.val (.long x0), .second, .val (.int (6 : Int32)), .val (.ref b22), .val (.long (1 : Int64)), .second, .val (.int (0 : Int32))] [])
  refine g_lload X23 hx hby d_pw6_22 rfl (rfl : 22 + 2 = 24) ?_
  refine g_lloadN X23 hx hby d_pw6_24 rfl (rfl : 24 + 1 = 25) ?_
  refine g_lmul X23 hx hby d_pw6_25 (rfl : 25 + 1 = 26) ?_
  refine g_lstore X23 hx hby #[.val (.long x0), .second, .val (.int (6 : Int32)), .val (.ref b22), .val (.long ((1 : Int64) * x0)), .second, .val (.int (0 : Int32))] d_pw6_26 rfl (rfl : 26 + 2 = 28) ?_
  refine g_iinc X23 hx hby #[.val (.long x0), .second, .val (.int (6 : Int32)), .val (.ref b22), .val (.long ((1 : Int64) * x0)), .second, .val (.int ((0 : Int32) + (1 : Int32)))] d_pw6_28 rfl rfl (rfl : 28 + 3 = 31) ?_
  rw [(by decide : ((0 : Int32) + (1 : Int32)) = (1 : Int32))]
  refine g_goto X23 hx hby d_pw6_31 (by decide) (pc' := 10) (by decide) ?_
  refine g_iload X23 hx hby d_pw6_10 rfl (rfl : 10 + 2 = 12) ?_
  refine g_iloadN X23 hx hby d_pw6_12 rfl (rfl : 12 + 1 = 13) ?_
  refine g_icF X23 hx hby d_pw6_13 (tlt (by decide : (1 : Int32) < (6 : Int32))).2.1 (rfl : 13 + 3 = 16) ?_
  refine g_aloadN X23 hx hby d_pw6_16 rfl rfl (rfl : 16 + 1 = 17) ?_
  refine g_iload X23 hx hby d_pw6_17 rfl (rfl : 17 + 2 = 19) ?_
  refine g_lload X23 hx hby d_pw6_19 rfl (rfl : 19 + 2 = 21) ?_
  obtain ⟨T24, h24, X24, e24, W24, V24, st24⟩ := a_lastore X23 hx hby hZ e23 (ls := #[.val (.long x0), .second, .val (.int (6 : Int32)), .val (.ref b22), .val (.long ((1 : Int64) * x0)), .second, .val (.int (1 : Int32))]) (st := []) (j := (1 : Int32)) ((1 : Int64) * x0) 1 V23' ⟨by decide, by decide⟩ (by decide) (Nat.le_of_ble_eq_true rfl) d_pw6_21
  have Z24 : n0 ≤ h24.size := Nat.le_trans Z23 (Keep.of_wr W24).1
  have N24 := Fr.snoc X24 N23 ge22
  have K24 : Keep h0 h24 [] := K23.wr W24 (Or.inr sz22)
  have V24' : Arv Z h24 b22 k22 .long (6 : Int32) [(.long (1 : Int64)), (.long ((1 : Int64) * x0)), (.long (0 : Int64)), (.long (0 : Int64)), (.long (0 : Int64)), (.long (0 : Int64))] (.long (0 : Int64)) := V24
  refine own_go st24 ?_
  show own_Got p e below _ T24 (mkF m 22 #[.val (.long x0), .second, .val (.int (6 : Int32)), .val (.ref b22), .val (.long ((1 : Int64) * x0)), .second, .val (.int (1 : Int32))] [])
  refine g_lload X24 hx hby d_pw6_22 rfl (rfl : 22 + 2 = 24) ?_
  refine g_lloadN X24 hx hby d_pw6_24 rfl (rfl : 24 + 1 = 25) ?_
  refine g_lmul X24 hx hby d_pw6_25 (rfl : 25 + 1 = 26) ?_
  refine g_lstore X24 hx hby #[.val (.long x0), .second, .val (.int (6 : Int32)), .val (.ref b22), .val (.long (((1 : Int64) * x0) * x0)), .second, .val (.int (1 : Int32))] d_pw6_26 rfl (rfl : 26 + 2 = 28) ?_
  refine g_iinc X24 hx hby #[.val (.long x0), .second, .val (.int (6 : Int32)), .val (.ref b22), .val (.long (((1 : Int64) * x0) * x0)), .second, .val (.int ((1 : Int32) + (1 : Int32)))] d_pw6_28 rfl rfl (rfl : 28 + 3 = 31) ?_
  rw [(by decide : ((1 : Int32) + (1 : Int32)) = (2 : Int32))]
  refine g_goto X24 hx hby d_pw6_31 (by decide) (pc' := 10) (by decide) ?_
  refine g_iload X24 hx hby d_pw6_10 rfl (rfl : 10 + 2 = 12) ?_
  refine g_iloadN X24 hx hby d_pw6_12 rfl (rfl : 12 + 1 = 13) ?_
  refine g_icF X24 hx hby d_pw6_13 (tlt (by decide : (2 : Int32) < (6 : Int32))).2.1 (rfl : 13 + 3 = 16) ?_
  refine g_aloadN X24 hx hby d_pw6_16 rfl rfl (rfl : 16 + 1 = 17) ?_
  refine g_iload X24 hx hby d_pw6_17 rfl (rfl : 17 + 2 = 19) ?_
  refine g_lload X24 hx hby d_pw6_19 rfl (rfl : 19 + 2 = 21) ?_
  obtain ⟨T25, h25, X25, e25, W25, V25, st25⟩ := a_lastore X24 hx hby hZ e24 (ls := #[.val (.long x0), .second, .val (.int (6 : Int32)), .val (.ref b22), .val (.long (((1 : Int64) * x0) * x0)), .second, .val (.int (2 : Int32))]) (st := []) (j := (2 : Int32)) (((1 : Int64) * x0) * x0) 2 V24' ⟨by decide, by decide⟩ (by decide) (Nat.le_of_ble_eq_true rfl) d_pw6_21
  have Z25 : n0 ≤ h25.size := Nat.le_trans Z24 (Keep.of_wr W25).1
  have N25 := Fr.snoc X25 N24 ge22
  have K25 : Keep h0 h25 [] := K24.wr W25 (Or.inr sz22)
  have V25' : Arv Z h25 b22 k22 .long (6 : Int32) [(.long (1 : Int64)), (.long ((1 : Int64) * x0)), (.long (((1 : Int64) * x0) * x0)), (.long (0 : Int64)), (.long (0 : Int64)), (.long (0 : Int64))] (.long (0 : Int64)) := V25
  refine own_go st25 ?_
  show own_Got p e below _ T25 (mkF m 22 #[.val (.long x0), .second, .val (.int (6 : Int32)), .val (.ref b22), .val (.long (((1 : Int64) * x0) * x0)), .second, .val (.int (2 : Int32))] [])
  refine g_lload X25 hx hby d_pw6_22 rfl (rfl : 22 + 2 = 24) ?_
  refine g_lloadN X25 hx hby d_pw6_24 rfl (rfl : 24 + 1 = 25) ?_
  refine g_lmul X25 hx hby d_pw6_25 (rfl : 25 + 1 = 26) ?_
  refine g_lstore X25 hx hby #[.val (.long x0), .second, .val (.int (6 : Int32)), .val (.ref b22), .val (.long ((((1 : Int64) * x0) * x0) * x0)), .second, .val (.int (2 : Int32))] d_pw6_26 rfl (rfl : 26 + 2 = 28) ?_
  refine g_iinc X25 hx hby #[.val (.long x0), .second, .val (.int (6 : Int32)), .val (.ref b22), .val (.long ((((1 : Int64) * x0) * x0) * x0)), .second, .val (.int ((2 : Int32) + (1 : Int32)))] d_pw6_28 rfl rfl (rfl : 28 + 3 = 31) ?_
  rw [(by decide : ((2 : Int32) + (1 : Int32)) = (3 : Int32))]
  refine g_goto X25 hx hby d_pw6_31 (by decide) (pc' := 10) (by decide) ?_
  refine g_iload X25 hx hby d_pw6_10 rfl (rfl : 10 + 2 = 12) ?_
  refine g_iloadN X25 hx hby d_pw6_12 rfl (rfl : 12 + 1 = 13) ?_
  refine g_icF X25 hx hby d_pw6_13 (tlt (by decide : (3 : Int32) < (6 : Int32))).2.1 (rfl : 13 + 3 = 16) ?_
  refine g_aloadN X25 hx hby d_pw6_16 rfl rfl (rfl : 16 + 1 = 17) ?_
  refine g_iload X25 hx hby d_pw6_17 rfl (rfl : 17 + 2 = 19) ?_
  refine g_lload X25 hx hby d_pw6_19 rfl (rfl : 19 + 2 = 21) ?_
  obtain ⟨T26, h26, X26, e26, W26, V26, st26⟩ := a_lastore X25 hx hby hZ e25 (ls := #[.val (.long x0), .second, .val (.int (6 : Int32)), .val (.ref b22), .val (.long ((((1 : Int64) * x0) * x0) * x0)), .second, .val (.int (3 : Int32))]) (st := []) (j := (3 : Int32)) ((((1 : Int64) * x0) * x0) * x0) 3 V25' ⟨by decide, by decide⟩ (by decide) (Nat.le_of_ble_eq_true rfl) d_pw6_21
  have Z26 : n0 ≤ h26.size := Nat.le_trans Z25 (Keep.of_wr W26).1
  have N26 := Fr.snoc X26 N25 ge22
  have K26 : Keep h0 h26 [] := K25.wr W26 (Or.inr sz22)
  have V26' : Arv Z h26 b22 k22 .long (6 : Int32) [(.long (1 : Int64)), (.long ((1 : Int64) * x0)), (.long (((1 : Int64) * x0) * x0)), (.long ((((1 : Int64) * x0) * x0) * x0)), (.long (0 : Int64)), (.long (0 : Int64))] (.long (0 : Int64)) := V26
  refine own_go st26 ?_
  show own_Got p e below _ T26 (mkF m 22 #[.val (.long x0), .second, .val (.int (6 : Int32)), .val (.ref b22), .val (.long ((((1 : Int64) * x0) * x0) * x0)), .second, .val (.int (3 : Int32))] [])
  refine g_lload X26 hx hby d_pw6_22 rfl (rfl : 22 + 2 = 24) ?_
  refine g_lloadN X26 hx hby d_pw6_24 rfl (rfl : 24 + 1 = 25) ?_
  refine g_lmul X26 hx hby d_pw6_25 (rfl : 25 + 1 = 26) ?_
  refine g_lstore X26 hx hby #[.val (.long x0), .second, .val (.int (6 : Int32)), .val (.ref b22), .val (.long (((((1 : Int64) * x0) * x0) * x0) * x0)), .second, .val (.int (3 : Int32))] d_pw6_26 rfl (rfl : 26 + 2 = 28) ?_
  refine g_iinc X26 hx hby #[.val (.long x0), .second, .val (.int (6 : Int32)), .val (.ref b22), .val (.long (((((1 : Int64) * x0) * x0) * x0) * x0)), .second, .val (.int ((3 : Int32) + (1 : Int32)))] d_pw6_28 rfl rfl (rfl : 28 + 3 = 31) ?_
  rw [(by decide : ((3 : Int32) + (1 : Int32)) = (4 : Int32))]
  refine g_goto X26 hx hby d_pw6_31 (by decide) (pc' := 10) (by decide) ?_
  refine g_iload X26 hx hby d_pw6_10 rfl (rfl : 10 + 2 = 12) ?_
  refine g_iloadN X26 hx hby d_pw6_12 rfl (rfl : 12 + 1 = 13) ?_
  refine g_icF X26 hx hby d_pw6_13 (tlt (by decide : (4 : Int32) < (6 : Int32))).2.1 (rfl : 13 + 3 = 16) ?_
  refine g_aloadN X26 hx hby d_pw6_16 rfl rfl (rfl : 16 + 1 = 17) ?_
  refine g_iload X26 hx hby d_pw6_17 rfl (rfl : 17 + 2 = 19) ?_
  refine g_lload X26 hx hby d_pw6_19 rfl (rfl : 19 + 2 = 21) ?_
  obtain ⟨T27, h27, X27, e27, W27, V27, st27⟩ := a_lastore X26 hx hby hZ e26 (ls := #[.val (.long x0), .second, .val (.int (6 : Int32)), .val (.ref b22), .val (.long (((((1 : Int64) * x0) * x0) * x0) * x0)), .second, .val (.int (4 : Int32))]) (st := []) (j := (4 : Int32)) (((((1 : Int64) * x0) * x0) * x0) * x0) 4 V26' ⟨by decide, by decide⟩ (by decide) (Nat.le_of_ble_eq_true rfl) d_pw6_21
  have Z27 : n0 ≤ h27.size := Nat.le_trans Z26 (Keep.of_wr W27).1
  have N27 := Fr.snoc X27 N26 ge22
  have K27 : Keep h0 h27 [] := K26.wr W27 (Or.inr sz22)
  have V27' : Arv Z h27 b22 k22 .long (6 : Int32) [(.long (1 : Int64)), (.long ((1 : Int64) * x0)), (.long (((1 : Int64) * x0) * x0)), (.long ((((1 : Int64) * x0) * x0) * x0)), (.long (((((1 : Int64) * x0) * x0) * x0) * x0)), (.long (0 : Int64))] (.long (0 : Int64)) := V27
  refine own_go st27 ?_
  show own_Got p e below _ T27 (mkF m 22 #[.val (.long x0), .second, .val (.int (6 : Int32)), .val (.ref b22), .val (.long (((((1 : Int64) * x0) * x0) * x0) * x0)), .second, .val (.int (4 : Int32))] [])
  refine g_lload X27 hx hby d_pw6_22 rfl (rfl : 22 + 2 = 24) ?_
  refine g_lloadN X27 hx hby d_pw6_24 rfl (rfl : 24 + 1 = 25) ?_
  refine g_lmul X27 hx hby d_pw6_25 (rfl : 25 + 1 = 26) ?_
  refine g_lstore X27 hx hby #[.val (.long x0), .second, .val (.int (6 : Int32)), .val (.ref b22), .val (.long ((((((1 : Int64) * x0) * x0) * x0) * x0) * x0)), .second, .val (.int (4 : Int32))] d_pw6_26 rfl (rfl : 26 + 2 = 28) ?_
  refine g_iinc X27 hx hby #[.val (.long x0), .second, .val (.int (6 : Int32)), .val (.ref b22), .val (.long ((((((1 : Int64) * x0) * x0) * x0) * x0) * x0)), .second, .val (.int ((4 : Int32) + (1 : Int32)))] d_pw6_28 rfl rfl (rfl : 28 + 3 = 31) ?_
  rw [(by decide : ((4 : Int32) + (1 : Int32)) = (5 : Int32))]
  refine g_goto X27 hx hby d_pw6_31 (by decide) (pc' := 10) (by decide) ?_
  refine g_iload X27 hx hby d_pw6_10 rfl (rfl : 10 + 2 = 12) ?_
  refine g_iloadN X27 hx hby d_pw6_12 rfl (rfl : 12 + 1 = 13) ?_
  refine g_icF X27 hx hby d_pw6_13 (tlt (by decide : (5 : Int32) < (6 : Int32))).2.1 (rfl : 13 + 3 = 16) ?_
  refine g_aloadN X27 hx hby d_pw6_16 rfl rfl (rfl : 16 + 1 = 17) ?_
  refine g_iload X27 hx hby d_pw6_17 rfl (rfl : 17 + 2 = 19) ?_
  refine g_lload X27 hx hby d_pw6_19 rfl (rfl : 19 + 2 = 21) ?_
  obtain ⟨T28, h28, X28, e28, W28, V28, st28⟩ := a_lastore X27 hx hby hZ e27 (ls := #[.val (.long x0), .second, .val (.int (6 : Int32)), .val (.ref b22), .val (.long ((((((1 : Int64) * x0) * x0) * x0) * x0) * x0)), .second, .val (.int (5 : Int32))]) (st := []) (j := (5 : Int32)) ((((((1 : Int64) * x0) * x0) * x0) * x0) * x0) 5 V27' ⟨by decide, by decide⟩ (by decide) (Nat.le_of_ble_eq_true rfl) d_pw6_21
  have Z28 : n0 ≤ h28.size := Nat.le_trans Z27 (Keep.of_wr W28).1
  have N28 := Fr.snoc X28 N27 ge22
  have K28 : Keep h0 h28 [] := K27.wr W28 (Or.inr sz22)
  have V28' : Arv Z h28 b22 k22 .long (6 : Int32) [(.long (1 : Int64)), (.long ((1 : Int64) * x0)), (.long (((1 : Int64) * x0) * x0)), (.long ((((1 : Int64) * x0) * x0) * x0)), (.long (((((1 : Int64) * x0) * x0) * x0) * x0)), (.long ((((((1 : Int64) * x0) * x0) * x0) * x0) * x0))] (.long (0 : Int64)) := V28
  refine own_go st28 ?_
  show own_Got p e below _ T28 (mkF m 22 #[.val (.long x0), .second, .val (.int (6 : Int32)), .val (.ref b22), .val (.long ((((((1 : Int64) * x0) * x0) * x0) * x0) * x0)), .second, .val (.int (5 : Int32))] [])
  refine g_lload X28 hx hby d_pw6_22 rfl (rfl : 22 + 2 = 24) ?_
  refine g_lloadN X28 hx hby d_pw6_24 rfl (rfl : 24 + 1 = 25) ?_
  refine g_lmul X28 hx hby d_pw6_25 (rfl : 25 + 1 = 26) ?_
  refine g_lstore X28 hx hby #[.val (.long x0), .second, .val (.int (6 : Int32)), .val (.ref b22), .val (.long (((((((1 : Int64) * x0) * x0) * x0) * x0) * x0) * x0)), .second, .val (.int (5 : Int32))] d_pw6_26 rfl (rfl : 26 + 2 = 28) ?_
  refine g_iinc X28 hx hby #[.val (.long x0), .second, .val (.int (6 : Int32)), .val (.ref b22), .val (.long (((((((1 : Int64) * x0) * x0) * x0) * x0) * x0) * x0)), .second, .val (.int ((5 : Int32) + (1 : Int32)))] d_pw6_28 rfl rfl (rfl : 28 + 3 = 31) ?_
  rw [(by decide : ((5 : Int32) + (1 : Int32)) = (6 : Int32))]
  refine g_goto X28 hx hby d_pw6_31 (by decide) (pc' := 10) (by decide) ?_
  refine g_iload X28 hx hby d_pw6_10 rfl (rfl : 10 + 2 = 12) ?_
  refine g_iloadN X28 hx hby d_pw6_12 rfl (rfl : 12 + 1 = 13) ?_
  refine g_icT X28 hx hby d_pw6_13 (flt (by decide : ¬ ((6 : Int32) < (6 : Int32)))).2.1 (by decide) (pc' := 34) (by decide) ?_
  refine g_aloadN X28 hx hby d_pw6_34 rfl rfl (rfl : 34 + 1 = 35) ?_
  refine own_retR X28 hx hby hlk hrt rfl d_pw6_35 (by decide) (by decide) rfl ?_
  show Q_pw6 Z x0 h0 n0 _ T28.heap _
  rw [e28]
  exact ⟨b22, k22, rfl, N28, K28, sz22, V28'⟩
theorem d_pw7_0 : decode prog_35_method_8_code 0 = .ok (.iload_n 2, 1) := by decide +kernel
theorem d_pw7_1 : decode prog_35_method_8_code 1 = .ok (.newarray .long, 2) := by decide +kernel
theorem d_pw7_3 : decode prog_35_method_8_code 3 = .ok (.astore_n 3, 1) := by decide +kernel
theorem d_pw7_4 : decode prog_35_method_8_code 4 = .ok (.lconst 1, 1) := by decide +kernel
theorem d_pw7_5 : decode prog_35_method_8_code 5 = .ok (.lstore 4, 2) := by decide +kernel
theorem d_pw7_7 : decode prog_35_method_8_code 7 = .ok (.iconst 0, 1) := by decide +kernel
theorem d_pw7_8 : decode prog_35_method_8_code 8 = .ok (.istore 6, 2) := by decide +kernel
theorem d_pw7_10 : decode prog_35_method_8_code 10 = .ok (.iload 6, 2) := by decide +kernel
theorem d_pw7_12 : decode prog_35_method_8_code 12 = .ok (.iload_n 2, 1) := by decide +kernel
theorem d_pw7_13 : decode prog_35_method_8_code 13 = .ok (.if_icmp .ge 21, 3) := by decide +kernel
theorem d_pw7_16 : decode prog_35_method_8_code 16 = .ok (.aload_n 3, 1) := by decide +kernel
theorem d_pw7_17 : decode prog_35_method_8_code 17 = .ok (.iload 6, 2) := by decide +kernel
theorem d_pw7_19 : decode prog_35_method_8_code 19 = .ok (.lload 4, 2) := by decide +kernel
theorem d_pw7_21 : decode prog_35_method_8_code 21 = .ok (.lastore, 1) := by decide +kernel
theorem d_pw7_22 : decode prog_35_method_8_code 22 = .ok (.lload 4, 2) := by decide +kernel
theorem d_pw7_24 : decode prog_35_method_8_code 24 = .ok (.lload_n 0, 1) := by decide +kernel
theorem d_pw7_25 : decode prog_35_method_8_code 25 = .ok (.lmul, 1) := by decide +kernel
theorem d_pw7_26 : decode prog_35_method_8_code 26 = .ok (.lstore 4, 2) := by decide +kernel
theorem d_pw7_28 : decode prog_35_method_8_code 28 = .ok (.iinc 6 1, 3) := by decide +kernel
theorem d_pw7_31 : decode prog_35_method_8_code 31 = .ok (.goto (-21), 3) := by decide +kernel
theorem d_pw7_34 : decode prog_35_method_8_code 34 = .ok (.aload_n 3, 1) := by decide +kernel
theorem d_pw7_35 : decode prog_35_method_8_code 35 = .ok (.areturn, 1) := by decide +kernel
theorem ef_pw7 (m : MethodId) (x0 : Int64) : entryFrame m #[(.long x0), (.int (7 : Int32))] 7 = mkF m 0 #[.val (.long x0), .second, .val (.int (7 : Int32)), .unset, .unset, .unset, .unset] [] := by first | (simp [entryFrame, mkF, argsToLocals, Value.category]; done) | rfl
def Q_pw7 (Z : State) (x0 : Int64) (h0 : Heap) (n0 : Nat) (v : Option Value) (h : Heap) (L : List Loc) : Prop := ∃ (b : Addr), ∃ (kk : ClassId), v = some (.ref b) ∧ Fr n0 L ∧ Keep h0 h [] ∧ h0.size ≤ b ∧ Arv Z h b kk .long (7 : Int32) [(.long (1 : Int64)), (.long ((1 : Int64) * x0)), (.long (((1 : Int64) * x0) * x0)), (.long ((((1 : Int64) * x0) * x0) * x0)), (.long (((((1 : Int64) * x0) * x0) * x0) * x0)), (.long ((((((1 : Int64) * x0) * x0) * x0) * x0) * x0)), (.long (((((((1 : Int64) * x0) * x0) * x0) * x0) * x0) * x0))] (.long (0 : Int64))
set_option maxRecDepth 65536 in
set_option maxHeartbeats 40000000 in
theorem rm_pw7 (l : Launch) (Z : State) (a0 : Array Value) (hw : ∀ d ∈ tables_1, d.before a0 Z = true) (ws : List Jvm.Cond) (x0 : Int64) (h0 : Heap) (n0 : Nat) (Z0 : n0 ≤ h0.size) :
    MetFree l (⟨"com/example/markov_lumper/markovlumper/decimal/Scaling", "powers", "(JI)[J"⟩ : MethodName) (head1 (Jvm.Cond.code (⟨"com/example/markov_lumper/markovlumper/decimal/Scaling", "powers", "(JI)[J"⟩ : MethodName) prog_35_method_8_code 7 (some (.array .long)) :: ws) ({ frames := 0, cells := 1, slots := 7, locals := 0 } : Room)) (fun a U => a = #[(.long x0), (.int (7 : Int32))] ∧ Z.Warmed39 U.vm ∧ U.heap = h0) (fun _ _ _ _ _ => True) (fun _ U o U' => ∃ v L, o = .returned v ∧ Q_pw7 Z x0 h0 n0 v U'.heap L ∧ FrameEnd U o U' L ({ frames := 0, cells := 1, slots := 7, locals := 0 } : Room).cells ({ frames := 0, cells := 1, slots := 7, locals := 0 } : Room).slots) := by
  refine MetFree.of_bodySF (plainFor_of_name pn0) hisR ?_
  intro p e s m args below meth c s₁ Bd hml0 hP hK
  obtain ⟨rfl, hZ, hh⟩ := hP
  have hx := Bd.exec
  have hby := Bd.bytes
  have hml : c.maxLocals = 7 := hml0
  have hown : s.vm.findClass "com/example/markov_lumper/markovlumper/decimal/Scaling" = some m.cls := findClass_of_methodNamed Bd.named
  have hnm := (name_of_methodNamed Bd.named Bd.method).1
  have hlk := Bd.notSynchronized
  have hrt := Bd.returns
  have X0 : Stand p l e ({ frames := 0, cells := 1, slots := 7, locals := 0 } : Room) s m #[(.long x0), (.int (7 : Int32))] below meth c s₁ [] 0 0 := Stand.of_body Bd
  have e0 : s₁.heap = h0 := by rw [← hh, Bd.state]; rfl
  have N0 := Fr.nil n0
  refine own_cast (P := own_End s (Q_pw7 Z x0 h0 n0) ({ frames := 0, cells := 1, slots := 7, locals := 0 } : Room).cells ({ frames := 0, cells := 1, slots := 7, locals := 0 } : Room).slots) (ef_pw7 m x0) ?_
  refine g_iloadN X0 hx hby d_pw7_0 rfl (rfl : 0 + 1 = 1) ?_
  obtain ⟨T29, h29, k29, X29, e29, E29, A29, B29, st29⟩ := newPE X0 hx hZ (hw _ (List.mem_of_getElem? (i := 4) rfl)) e0 (g := (mkF m 1 #[.val (.long x0), .second, .val (.int (7 : Int32)), .unset, .unset, .unset, .unset] [(.int (7 : Int32))])) rfl (hb hby d_pw7_1) rfl (by decide) (cap := 7) (by decide) (by decide) (by decide) (by decide) (ad := "[J") (by decide +kernel)
  obtain ⟨b29, g29⟩ : ∃ z, z = h0.size := ⟨_, rfl⟩
  rw [← g29] at A29 B29 st29
  have Z29 : n0 ≤ h29.size := Nat.le_trans Z0 E29.1
  have K29 : Keep h0 h29 [] := (Keep.refl h0 []).ext E29
  have ge29 : n0 ≤ b29 := Nat.le_trans Z0 (Nat.le_of_eq g29.symm)
  have sz29 : h0.size ≤ b29 := Nat.le_trans (Keep.refl h0 []).1 (Nat.le_of_eq g29.symm)
  have V29 : Arv Z h29 b29 k29 .long (7 : Int32) [(.long (0 : Int64)), (.long (0 : Int64)), (.long (0 : Int64)), (.long (0 : Int64)), (.long (0 : Int64)), (.long (0 : Int64)), (.long (0 : Int64))] (.long (0 : Int64)) := (Arv.new A29 (by decide)).pad (pad_rep [] _ 7)
  refine own_go st29 ?_
  show own_Got p e below _ T29 (mkF m 3 #[.val (.long x0), .second, .val (.int (7 : Int32)), .unset, .unset, .unset, .unset] [(.ref b29)])
  refine g_astoreN X29 hx hby #[.val (.long x0), .second, .val (.int (7 : Int32)), .val (.ref b29), .unset, .unset, .unset] d_pw7_3 rfl rfl (rfl : 3 + 1 = 4) ?_
  refine g_lconst X29 hx hby (1 : Int64) d_pw7_4 (by decide) (rfl : 4 + 1 = 5) ?_
  refine g_lstore X29 hx hby #[.val (.long x0), .second, .val (.int (7 : Int32)), .val (.ref b29), .val (.long (1 : Int64)), .second, .unset] d_pw7_5 rfl (rfl : 5 + 2 = 7) ?_
  refine g_iconst X29 hx hby (0 : Int32) d_pw7_7 (by decide) (rfl : 7 + 1 = 8) ?_
  refine g_istore X29 hx hby #[.val (.long x0), .second, .val (.int (7 : Int32)), .val (.ref b29), .val (.long (1 : Int64)), .second, .val (.int (0 : Int32))] d_pw7_8 rfl (rfl : 8 + 2 = 10) ?_
  refine g_iload X29 hx hby d_pw7_10 rfl (rfl : 10 + 2 = 12) ?_
  refine g_iloadN X29 hx hby d_pw7_12 rfl (rfl : 12 + 1 = 13) ?_
  refine g_icF X29 hx hby d_pw7_13 (tlt (by decide : (0 : Int32) < (7 : Int32))).2.1 (rfl : 13 + 3 = 16) ?_
  refine g_aloadN X29 hx hby d_pw7_16 rfl rfl (rfl : 16 + 1 = 17) ?_
  refine g_iload X29 hx hby d_pw7_17 rfl (rfl : 17 + 2 = 19) ?_
  refine g_lload X29 hx hby d_pw7_19 rfl (rfl : 19 + 2 = 21) ?_
  obtain ⟨T30, h30, X30, e30, W30, V30, st30⟩ := a_lastore X29 hx hby hZ e29 (ls := #[.val (.long x0), .second, .val (.int (7 : Int32)), .val (.ref b29), .val (.long (1 : Int64)), .second, .val (.int (0 : Int32))]) (st := []) (j := (0 : Int32)) (1 : Int64) 0 V29 ⟨by decide, by decide⟩ (by decide) (Nat.le_of_ble_eq_true rfl) d_pw7_21
  have Z30 : n0 ≤ h30.size := Nat.le_trans Z29 (Keep.of_wr W30).1
  have N30 := Fr.snoc X30 N0 ge29
  have K30 : Keep h0 h30 [] := K29.wr W30 (Or.inr sz29)
  have V30' : Arv Z h30 b29 k29 .long (7 : Int32) [(.long (1 : Int64)), (.long (0 : Int64)), (.long (0 : Int64)), (.long (0 : Int64)), (.long (0 : Int64)), (.long (0 : Int64)), (.long (0 : Int64))] (.long (0 : Int64)) := V30
  refine own_go st30 ?_
  show own_Got p e below _ T30 (mkF m 22 #[.val (.long x0), .second, .val (.int (7 : Int32)), .val (.ref b29), .val (.long (1 : Int64)), .second, .val (.int (0 : Int32))] [])
  refine g_lload X30 hx hby d_pw7_22 rfl (rfl : 22 + 2 = 24) ?_
  refine g_lloadN X30 hx hby d_pw7_24 rfl (rfl : 24 + 1 = 25) ?_
  refine g_lmul X30 hx hby d_pw7_25 (rfl : 25 + 1 = 26) ?_
  refine g_lstore X30 hx hby #[.val (.long x0), .second, .val (.int (7 : Int32)), .val (.ref b29), .val (.long ((1 : Int64) * x0)), .second, .val (.int (0 : Int32))] d_pw7_26 rfl (rfl : 26 + 2 = 28) ?_
  refine g_iinc X30 hx hby #[.val (.long x0), .second, .val (.int (7 : Int32)), .val (.ref b29), .val (.long ((1 : Int64) * x0)), .second, .val (.int ((0 : Int32) + (1 : Int32)))] d_pw7_28 rfl rfl (rfl : 28 + 3 = 31) ?_
  rw [(by decide : ((0 : Int32) + (1 : Int32)) = (1 : Int32))]
  refine g_goto X30 hx hby d_pw7_31 (by decide) (pc' := 10) (by decide) ?_
  refine g_iload X30 hx hby d_pw7_10 rfl (rfl : 10 + 2 = 12) ?_
  refine g_iloadN X30 hx hby d_pw7_12 rfl (rfl : 12 + 1 = 13) ?_
  refine g_icF X30 hx hby d_pw7_13 (tlt (by decide : (1 : Int32) < (7 : Int32))).2.1 (rfl : 13 + 3 = 16) ?_
  refine g_aloadN X30 hx hby d_pw7_16 rfl rfl (rfl : 16 + 1 = 17) ?_
  refine g_iload X30 hx hby d_pw7_17 rfl (rfl : 17 + 2 = 19) ?_
  refine g_lload X30 hx hby d_pw7_19 rfl (rfl : 19 + 2 = 21) ?_
  obtain ⟨T31, h31, X31, e31, W31, V31, st31⟩ := a_lastore X30 hx hby hZ e30 (ls := #[.val (.long x0), .second, .val (.int (7 : Int32)), .val (.ref b29), .val (.long ((1 : Int64) * x0)), .second, .val (.int (1 : Int32))]) (st := []) (j := (1 : Int32)) ((1 : Int64) * x0) 1 V30' ⟨by decide, by decide⟩ (by decide) (Nat.le_of_ble_eq_true rfl) d_pw7_21
  have Z31 : n0 ≤ h31.size := Nat.le_trans Z30 (Keep.of_wr W31).1
  have N31 := Fr.snoc X31 N30 ge29
  have K31 : Keep h0 h31 [] := K30.wr W31 (Or.inr sz29)
  have V31' : Arv Z h31 b29 k29 .long (7 : Int32) [(.long (1 : Int64)), (.long ((1 : Int64) * x0)), (.long (0 : Int64)), (.long (0 : Int64)), (.long (0 : Int64)), (.long (0 : Int64)), (.long (0 : Int64))] (.long (0 : Int64)) := V31
  refine own_go st31 ?_
  show own_Got p e below _ T31 (mkF m 22 #[.val (.long x0), .second, .val (.int (7 : Int32)), .val (.ref b29), .val (.long ((1 : Int64) * x0)), .second, .val (.int (1 : Int32))] [])
  refine g_lload X31 hx hby d_pw7_22 rfl (rfl : 22 + 2 = 24) ?_
  refine g_lloadN X31 hx hby d_pw7_24 rfl (rfl : 24 + 1 = 25) ?_
  refine g_lmul X31 hx hby d_pw7_25 (rfl : 25 + 1 = 26) ?_
  refine g_lstore X31 hx hby #[.val (.long x0), .second, .val (.int (7 : Int32)), .val (.ref b29), .val (.long (((1 : Int64) * x0) * x0)), .second, .val (.int (1 : Int32))] d_pw7_26 rfl (rfl : 26 + 2 = 28) ?_
  refine g_iinc X31 hx hby #[.val (.long x0), .second, .val (.int (7 : Int32)), .val (.ref b29), .val (.long (((1 : Int64) * x0) * x0)), .second, .val (.int ((1 : Int32) + (1 : Int32)))] d_pw7_28 rfl rfl (rfl : 28 + 3 = 31) ?_
  rw [(by decide : ((1 : Int32) + (1 : Int32)) = (2 : Int32))]
  refine g_goto X31 hx hby d_pw7_31 (by decide) (pc' := 10) (by decide) ?_
  refine g_iload X31 hx hby d_pw7_10 rfl (rfl : 10 + 2 = 12) ?_
  refine g_iloadN X31 hx hby d_pw7_12 rfl (rfl : 12 + 1 = 13) ?_
  refine g_icF X31 hx hby d_pw7_13 (tlt (by decide : (2 : Int32) < (7 : Int32))).2.1 (rfl : 13 + 3 = 16) ?_
  refine g_aloadN X31 hx hby d_pw7_16 rfl rfl (rfl : 16 + 1 = 17) ?_
  refine g_iload X31 hx hby d_pw7_17 rfl (rfl : 17 + 2 = 19) ?_
  refine g_lload X31 hx hby d_pw7_19 rfl (rfl : 19 + 2 = 21) ?_
  obtain ⟨T32, h32, X32, e32, W32, V32, st32⟩ := a_lastore X31 hx hby hZ e31 (ls := #[.val (.long x0), .second, .val (.int (7 : Int32)), .val (.ref b29), .val (.long (((1 : Int64) * x0) * x0)), .second, .val (.int (2 : Int32))]) (st := []) (j := (2 : Int32)) (((1 : Int64) * x0) * x0) 2 V31' ⟨by decide, by decide⟩ (by decide) (Nat.le_of_ble_eq_true rfl) d_pw7_21
  have Z32 : n0 ≤ h32.size := Nat.le_trans Z31 (Keep.of_wr W32).1
  have N32 := Fr.snoc X32 N31 ge29
  have K32 : Keep h0 h32 [] := K31.wr W32 (Or.inr sz29)
  have V32' : Arv Z h32 b29 k29 .long (7 : Int32) [(.long (1 : Int64)), (.long ((1 : Int64) * x0)), (.long (((1 : Int64) * x0) * x0)), (.long (0 : Int64)), (.long (0 : Int64)), (.long (0 : Int64)), (.long (0 : Int64))] (.long (0 : Int64)) := V32
  refine own_go st32 ?_
  show own_Got p e below _ T32 (mkF m 22 #[.val (.long x0), .second, .val (.int (7 : Int32)), .val (.ref b29), .val (.long (((1 : Int64) * x0) * x0)), .second, .val (.int (2 : Int32))] [])
  refine g_lload X32 hx hby d_pw7_22 rfl (rfl : 22 + 2 = 24) ?_
  refine g_lloadN X32 hx hby d_pw7_24 rfl (rfl : 24 + 1 = 25) ?_
  refine g_lmul X32 hx hby d_pw7_25 (rfl : 25 + 1 = 26) ?_
  refine g_lstore X32 hx hby #[.val (.long x0), .second, .val (.int (7 : Int32)), .val (.ref b29), .val (.long ((((1 : Int64) * x0) * x0) * x0)), .second, .val (.int (2 : Int32))] d_pw7_26 rfl (rfl : 26 + 2 = 28) ?_
  refine g_iinc X32 hx hby #[.val (.long x0), .second, .val (.int (7 : Int32)), .val (.ref b29), .val (.long ((((1 : Int64) * x0) * x0) * x0)), .second, .val (.int ((2 : Int32) + (1 : Int32)))] d_pw7_28 rfl rfl (rfl : 28 + 3 = 31) ?_
  rw [(by decide : ((2 : Int32) + (1 : Int32)) = (3 : Int32))]
  refine g_goto X32 hx hby d_pw7_31 (by decide) (pc' := 10) (by decide) ?_
  refine g_iload X32 hx hby d_pw7_10 rfl (rfl : 10 + 2 = 12) ?_
  refine g_iloadN X32 hx hby d_pw7_12 rfl (rfl : 12 + 1 = 13) ?_
  refine g_icF X32 hx hby d_pw7_13 (tlt (by decide : (3 : Int32) < (7 : Int32))).2.1 (rfl : 13 + 3 = 16) ?_
  refine g_aloadN X32 hx hby d_pw7_16 rfl rfl (rfl : 16 + 1 = 17) ?_
  refine g_iload X32 hx hby d_pw7_17 rfl (rfl : 17 + 2 = 19) ?_
  refine g_lload X32 hx hby d_pw7_19 rfl (rfl : 19 + 2 = 21) ?_
  obtain ⟨T33, h33, X33, e33, W33, V33, st33⟩ := a_lastore X32 hx hby hZ e32 (ls := #[.val (.long x0), .second, .val (.int (7 : Int32)), .val (.ref b29), .val (.long ((((1 : Int64) * x0) * x0) * x0)), .second, .val (.int (3 : Int32))]) (st := []) (j := (3 : Int32)) ((((1 : Int64) * x0) * x0) * x0) 3 V32' ⟨by decide, by decide⟩ (by decide) (Nat.le_of_ble_eq_true rfl) d_pw7_21
  have Z33 : n0 ≤ h33.size := Nat.le_trans Z32 (Keep.of_wr W33).1
  have N33 := Fr.snoc X33 N32 ge29
  have K33 : Keep h0 h33 [] := K32.wr W33 (Or.inr sz29)
  have V33' : Arv Z h33 b29 k29 .long (7 : Int32) [(.long (1 : Int64)), (.long ((1 : Int64) * x0)), (.long (((1 : Int64) * x0) * x0)), (.long ((((1 : Int64) * x0) * x0) * x0)), (.long (0 : Int64)), (.long (0 : Int64)), (.long (0 : Int64))] (.long (0 : Int64)) := V33
  refine own_go st33 ?_
  show own_Got p e below _ T33 (mkF m 22 #[.val (.long x0), .second, .val (.int (7 : Int32)), .val (.ref b29), .val (.long ((((1 : Int64) * x0) * x0) * x0)), .second, .val (.int (3 : Int32))] [])
  refine g_lload X33 hx hby d_pw7_22 rfl (rfl : 22 + 2 = 24) ?_
  refine g_lloadN X33 hx hby d_pw7_24 rfl (rfl : 24 + 1 = 25) ?_
  refine g_lmul X33 hx hby d_pw7_25 (rfl : 25 + 1 = 26) ?_
  refine g_lstore X33 hx hby #[.val (.long x0), .second, .val (.int (7 : Int32)), .val (.ref b29), .val (.long (((((1 : Int64) * x0) * x0) * x0) * x0)), .second, .val (.int (3 : Int32))] d_pw7_26 rfl (rfl : 26 + 2 = 28) ?_
  refine g_iinc X33 hx hby #[.val (.long x0), .second, .val (.int (7 : Int32)), .val (.ref b29), .val (.long (((((1 : Int64) * x0) * x0) * x0) * x0)), .second, .val (.int ((3 : Int32) + (1 : Int32)))] d_pw7_28 rfl rfl (rfl : 28 + 3 = 31) ?_
  rw [(by decide : ((3 : Int32) + (1 : Int32)) = (4 : Int32))]
  refine g_goto X33 hx hby d_pw7_31 (by decide) (pc' := 10) (by decide) ?_
  refine g_iload X33 hx hby d_pw7_10 rfl (rfl : 10 + 2 = 12) ?_
  refine g_iloadN X33 hx hby d_pw7_12 rfl (rfl : 12 + 1 = 13) ?_
  refine g_icF X33 hx hby d_pw7_13 (tlt (by decide : (4 : Int32) < (7 : Int32))).2.1 (rfl : 13 + 3 = 16) ?_
  refine g_aloadN X33 hx hby d_pw7_16 rfl rfl (rfl : 16 + 1 = 17) ?_
  refine g_iload X33 hx hby d_pw7_17 rfl (rfl : 17 + 2 = 19) ?_
  refine g_lload X33 hx hby d_pw7_19 rfl (rfl : 19 + 2 = 21) ?_
  obtain ⟨T34, h34, X34, e34, W34, V34, st34⟩ := a_lastore X33 hx hby hZ e33 (ls := #[.val (.long x0), .second, .val (.int (7 : Int32)), .val (.ref b29), .val (.long (((((1 : Int64) * x0) * x0) * x0) * x0)), .second, .val (.int (4 : Int32))]) (st := []) (j := (4 : Int32)) (((((1 : Int64) * x0) * x0) * x0) * x0) 4 V33' ⟨by decide, by decide⟩ (by decide) (Nat.le_of_ble_eq_true rfl) d_pw7_21
  have Z34 : n0 ≤ h34.size := Nat.le_trans Z33 (Keep.of_wr W34).1
  have N34 := Fr.snoc X34 N33 ge29
  have K34 : Keep h0 h34 [] := K33.wr W34 (Or.inr sz29)
  have V34' : Arv Z h34 b29 k29 .long (7 : Int32) [(.long (1 : Int64)), (.long ((1 : Int64) * x0)), (.long (((1 : Int64) * x0) * x0)), (.long ((((1 : Int64) * x0) * x0) * x0)), (.long (((((1 : Int64) * x0) * x0) * x0) * x0)), (.long (0 : Int64)), (.long (0 : Int64))] (.long (0 : Int64)) := V34
  refine own_go st34 ?_
  show own_Got p e below _ T34 (mkF m 22 #[.val (.long x0), .second, .val (.int (7 : Int32)), .val (.ref b29), .val (.long (((((1 : Int64) * x0) * x0) * x0) * x0)), .second, .val (.int (4 : Int32))] [])
  refine g_lload X34 hx hby d_pw7_22 rfl (rfl : 22 + 2 = 24) ?_
  refine g_lloadN X34 hx hby d_pw7_24 rfl (rfl : 24 + 1 = 25) ?_
  refine g_lmul X34 hx hby d_pw7_25 (rfl : 25 + 1 = 26) ?_
  refine g_lstore X34 hx hby #[.val (.long x0), .second, .val (.int (7 : Int32)), .val (.ref b29), .val (.long ((((((1 : Int64) * x0) * x0) * x0) * x0) * x0)), .second, .val (.int (4 : Int32))] d_pw7_26 rfl (rfl : 26 + 2 = 28) ?_
  refine g_iinc X34 hx hby #[.val (.long x0), .second, .val (.int (7 : Int32)), .val (.ref b29), .val (.long ((((((1 : Int64) * x0) * x0) * x0) * x0) * x0)), .second, .val (.int ((4 : Int32) + (1 : Int32)))] d_pw7_28 rfl rfl (rfl : 28 + 3 = 31) ?_
  rw [(by decide : ((4 : Int32) + (1 : Int32)) = (5 : Int32))]
  refine g_goto X34 hx hby d_pw7_31 (by decide) (pc' := 10) (by decide) ?_
  refine g_iload X34 hx hby d_pw7_10 rfl (rfl : 10 + 2 = 12) ?_
  refine g_iloadN X34 hx hby d_pw7_12 rfl (rfl : 12 + 1 = 13) ?_
  refine g_icF X34 hx hby d_pw7_13 (tlt (by decide : (5 : Int32) < (7 : Int32))).2.1 (rfl : 13 + 3 = 16) ?_
  refine g_aloadN X34 hx hby d_pw7_16 rfl rfl (rfl : 16 + 1 = 17) ?_
  refine g_iload X34 hx hby d_pw7_17 rfl (rfl : 17 + 2 = 19) ?_
  refine g_lload X34 hx hby d_pw7_19 rfl (rfl : 19 + 2 = 21) ?_
  obtain ⟨T35, h35, X35, e35, W35, V35, st35⟩ := a_lastore X34 hx hby hZ e34 (ls := #[.val (.long x0), .second, .val (.int (7 : Int32)), .val (.ref b29), .val (.long ((((((1 : Int64) * x0) * x0) * x0) * x0) * x0)), .second, .val (.int (5 : Int32))]) (st := []) (j := (5 : Int32)) ((((((1 : Int64) * x0) * x0) * x0) * x0) * x0) 5 V34' ⟨by decide, by decide⟩ (by decide) (Nat.le_of_ble_eq_true rfl) d_pw7_21
  have Z35 : n0 ≤ h35.size := Nat.le_trans Z34 (Keep.of_wr W35).1
  have N35 := Fr.snoc X35 N34 ge29
  have K35 : Keep h0 h35 [] := K34.wr W35 (Or.inr sz29)
  have V35' : Arv Z h35 b29 k29 .long (7 : Int32) [(.long (1 : Int64)), (.long ((1 : Int64) * x0)), (.long (((1 : Int64) * x0) * x0)), (.long ((((1 : Int64) * x0) * x0) * x0)), (.long (((((1 : Int64) * x0) * x0) * x0) * x0)), (.long ((((((1 : Int64) * x0) * x0) * x0) * x0) * x0)), (.long (0 : Int64))] (.long (0 : Int64)) := V35
  refine own_go st35 ?_
  show own_Got p e below _ T35 (mkF m 22 #[.val (.long x0), .second, .val (.int (7 : Int32)), .val (.ref b29), .val (.long ((((((1 : Int64) * x0) * x0) * x0) * x0) * x0)), .second, .val (.int (5 : Int32))] [])
  refine g_lload X35 hx hby d_pw7_22 rfl (rfl : 22 + 2 = 24) ?_
  refine g_lloadN X35 hx hby d_pw7_24 rfl (rfl : 24 + 1 = 25) ?_
  refine g_lmul X35 hx hby d_pw7_25 (rfl : 25 + 1 = 26) ?_
  refine g_lstore X35 hx hby #[.val (.long x0), .second, .val (.int (7 : Int32)), .val (.ref b29), .val (.long (((((((1 : Int64) * x0) * x0) * x0) * x0) * x0) * x0)), .second, .val (.int (5 : Int32))] d_pw7_26 rfl (rfl : 26 + 2 = 28) ?_
  refine g_iinc X35 hx hby #[.val (.long x0), .second, .val (.int (7 : Int32)), .val (.ref b29), .val (.long (((((((1 : Int64) * x0) * x0) * x0) * x0) * x0) * x0)), .second, .val (.int ((5 : Int32) + (1 : Int32)))] d_pw7_28 rfl rfl (rfl : 28 + 3 = 31) ?_
  rw [(by decide : ((5 : Int32) + (1 : Int32)) = (6 : Int32))]
  refine g_goto X35 hx hby d_pw7_31 (by decide) (pc' := 10) (by decide) ?_
  refine g_iload X35 hx hby d_pw7_10 rfl (rfl : 10 + 2 = 12) ?_
  refine g_iloadN X35 hx hby d_pw7_12 rfl (rfl : 12 + 1 = 13) ?_
  refine g_icF X35 hx hby d_pw7_13 (tlt (by decide : (6 : Int32) < (7 : Int32))).2.1 (rfl : 13 + 3 = 16) ?_
  refine g_aloadN X35 hx hby d_pw7_16 rfl rfl (rfl : 16 + 1 = 17) ?_
  refine g_iload X35 hx hby d_pw7_17 rfl (rfl : 17 + 2 = 19) ?_
  refine g_lload X35 hx hby d_pw7_19 rfl (rfl : 19 + 2 = 21) ?_
  obtain ⟨T36, h36, X36, e36, W36, V36, st36⟩ := a_lastore X35 hx hby hZ e35 (ls := #[.val (.long x0), .second, .val (.int (7 : Int32)), .val (.ref b29), .val (.long (((((((1 : Int64) * x0) * x0) * x0) * x0) * x0) * x0)), .second, .val (.int (6 : Int32))]) (st := []) (j := (6 : Int32)) (((((((1 : Int64) * x0) * x0) * x0) * x0) * x0) * x0) 6 V35' ⟨by decide, by decide⟩ (by decide) (Nat.le_of_ble_eq_true rfl) d_pw7_21
  have Z36 : n0 ≤ h36.size := Nat.le_trans Z35 (Keep.of_wr W36).1
  have N36 := Fr.snoc X36 N35 ge29
  have K36 : Keep h0 h36 [] := K35.wr W36 (Or.inr sz29)
  have V36' : Arv Z h36 b29 k29 .long (7 : Int32) [(.long (1 : Int64)), (.long ((1 : Int64) * x0)), (.long (((1 : Int64) * x0) * x0)), (.long ((((1 : Int64) * x0) * x0) * x0)), (.long (((((1 : Int64) * x0) * x0) * x0) * x0)), (.long ((((((1 : Int64) * x0) * x0) * x0) * x0) * x0)), (.long (((((((1 : Int64) * x0) * x0) * x0) * x0) * x0) * x0))] (.long (0 : Int64)) := V36
  refine own_go st36 ?_
  show own_Got p e below _ T36 (mkF m 22 #[.val (.long x0), .second, .val (.int (7 : Int32)), .val (.ref b29), .val (.long (((((((1 : Int64) * x0) * x0) * x0) * x0) * x0) * x0)), .second, .val (.int (6 : Int32))] [])
  refine g_lload X36 hx hby d_pw7_22 rfl (rfl : 22 + 2 = 24) ?_
  refine g_lloadN X36 hx hby d_pw7_24 rfl (rfl : 24 + 1 = 25) ?_
  refine g_lmul X36 hx hby d_pw7_25 (rfl : 25 + 1 = 26) ?_
  refine g_lstore X36 hx hby #[.val (.long x0), .second, .val (.int (7 : Int32)), .val (.ref b29), .val (.long ((((((((1 : Int64) * x0) * x0) * x0) * x0) * x0) * x0) * x0)), .second, .val (.int (6 : Int32))] d_pw7_26 rfl (rfl : 26 + 2 = 28) ?_
  refine g_iinc X36 hx hby #[.val (.long x0), .second, .val (.int (7 : Int32)), .val (.ref b29), .val (.long ((((((((1 : Int64) * x0) * x0) * x0) * x0) * x0) * x0) * x0)), .second, .val (.int ((6 : Int32) + (1 : Int32)))] d_pw7_28 rfl rfl (rfl : 28 + 3 = 31) ?_
  rw [(by decide : ((6 : Int32) + (1 : Int32)) = (7 : Int32))]
  refine g_goto X36 hx hby d_pw7_31 (by decide) (pc' := 10) (by decide) ?_
  refine g_iload X36 hx hby d_pw7_10 rfl (rfl : 10 + 2 = 12) ?_
  refine g_iloadN X36 hx hby d_pw7_12 rfl (rfl : 12 + 1 = 13) ?_
  refine g_icT X36 hx hby d_pw7_13 (flt (by decide : ¬ ((7 : Int32) < (7 : Int32)))).2.1 (by decide) (pc' := 34) (by decide) ?_
  refine g_aloadN X36 hx hby d_pw7_34 rfl rfl (rfl : 34 + 1 = 35) ?_
  refine own_retR X36 hx hby hlk hrt rfl d_pw7_35 (by decide) (by decide) rfl ?_
  show Q_pw7 Z x0 h0 n0 _ T36.heap _
  rw [e36]
  exact ⟨b29, k29, rfl, N36, K36, sz29, V36'⟩
theorem d_atG_0 : decode method_3_code 0 = .ok (.iload_n 1, 1) := by decide +kernel
theorem d_atG_1 : decode method_3_code 1 = .ok (.aload_n 0, 1) := by decide +kernel
theorem d_atG_2 : decode method_3_code 2 = .ok (.arraylength, 1) := by decide +kernel
theorem d_atG_3 : decode method_3_code 3 = .ok (.if_icmp .ge 11, 3) := by decide +kernel
theorem d_atG_14 : decode method_3_code 14 = .ok (.iconst 1, 1) := by decide +kernel
theorem d_atG_15 : decode method_3_code 15 = .ok (.goto 4, 3) := by decide +kernel
theorem d_atG_19 : decode method_3_code 19 = .ok (.ireturn, 1) := by decide +kernel
theorem pn1 : plainName "com/example/markov_lumper/markovlumper/decimal/ScalingPowersPinLaw" = true := by first | (simp [plainName, overriddenIn]; done) | decide +kernel
theorem ef_atG (m : MethodId) (a0 : Addr) (x1 : Int32) (x2 : Int64) : entryFrame m #[(.ref a0), (.int x1), (.long x2)] 4 = mkF m 0 #[.val (.ref a0), .val (.int x1), .val (.long x2), .second] [] := by first | (simp [entryFrame, mkF, argsToLocals, Value.category]; done) | rfl
def Q_atG (Z : State) (a0 : Addr) (x1 : Int32) (x2 : Int64) (n : Int32) (kk : ClassId) (vs : List Value) (h0 : Heap) (n0 : Nat) (v : Option Value) (h : Heap) (L : List Loc) : Prop := v = some (.int (1 : Int32)) ∧ Fr n0 L ∧ h = h0
set_option maxRecDepth 65536 in
set_option maxHeartbeats 40000000 in
theorem rm_atG (l : Launch) (Z : State) (a0 : Array Value) (hw : ∀ d ∈ tables_1, d.before a0 Z = true) (ws : List Jvm.Cond) (a0 : Addr) (x1 : Int32) (x2 : Int64) (n : Int32) (kk : ClassId) (vs : List Value) (h0 : Heap) (n0 : Nat) (Z0 : n0 ≤ h0.size) (hp0 : Arv Z h0 a0 kk .long n vs (.long (0 : Int64))) (hge : ¬ (x1 < n)) :
    MetFree l (⟨"com/example/markov_lumper/markovlumper/decimal/ScalingPowersPinLaw", "at", "([JIJ)Z"⟩ : MethodName) (head1 (Jvm.Cond.code (⟨"com/example/markov_lumper/markovlumper/decimal/ScalingPowersPinLaw", "at", "([JIJ)Z"⟩ : MethodName) method_3_code 4 (some .boolean) :: ws) ({ frames := 0, cells := 0, slots := 0, locals := 0 } : Room)) (fun a U => a = #[(.ref a0), (.int x1), (.long x2)] ∧ Z.Warmed39 U.vm ∧ U.heap = h0) (fun _ _ _ _ _ => True) (fun _ U o U' => ∃ v L, o = .returned v ∧ Q_atG Z a0 x1 x2 n kk vs h0 n0 v U'.heap L ∧ FrameEnd U o U' L ({ frames := 0, cells := 0, slots := 0, locals := 0 } : Room).cells ({ frames := 0, cells := 0, slots := 0, locals := 0 } : Room).slots) := by
  refine MetFree.of_bodySF (plainFor_of_name pn1) hisR ?_
  intro p e s m args below meth c s₁ Bd hml0 hP hK
  obtain ⟨rfl, hZ, hh⟩ := hP
  have hx := Bd.exec
  have hby := Bd.bytes
  have hml : c.maxLocals = 4 := hml0
  have hown : s.vm.findClass "com/example/markov_lumper/markovlumper/decimal/ScalingPowersPinLaw" = some m.cls := findClass_of_methodNamed Bd.named
  have hnm := (name_of_methodNamed Bd.named Bd.method).1
  have hlk := Bd.notSynchronized
  have hrt := Bd.returns
  have X0 : Stand p l e ({ frames := 0, cells := 0, slots := 0, locals := 0 } : Room) s m #[(.ref a0), (.int x1), (.long x2)] below meth c s₁ [] 0 0 := Stand.of_body Bd
  have e0 : s₁.heap = h0 := by rw [← hh, Bd.state]; rfl
  have N0 := Fr.nil n0
  refine own_cast (P := own_End s (Q_atG Z a0 x1 x2 n kk vs h0 n0) ({ frames := 0, cells := 0, slots := 0, locals := 0 } : Room).cells ({ frames := 0, cells := 0, slots := 0, locals := 0 } : Room).slots) (ef_atG m a0 x1 x2) ?_
  refine g_iloadN X0 hx hby d_atG_0 rfl (rfl : 0 + 1 = 1) ?_
  refine g_aloadN X0 hx hby d_atG_1 rfl rfl (rfl : 1 + 1 = 2) ?_
  refine g_alen X0 hx hby hZ e0 hp0 d_atG_2 (rfl : 2 + 1 = 3) ?_
  refine g_icT X0 hx hby d_atG_3 (flt hge).2.1 (by decide) (pc' := 14) (by decide) ?_
  refine g_iconst X0 hx hby (1 : Int32) d_atG_14 (by decide) (rfl : 14 + 1 = 15) ?_
  refine g_goto X0 hx hby d_atG_15 (by decide) (pc' := 19) (by decide) ?_
  refine own_retN X0 hx hby hlk (t := .boolean) hrt (by simp) d_atG_19 (by decide) (by decide) ?_
  show Q_atG Z a0 x1 x2 n kk vs h0 n0 _ s₁.heap _
  exact ⟨rfl, N0, e0⟩
theorem d_atL_0 : decode method_3_code 0 = .ok (.iload_n 1, 1) := by decide +kernel
theorem d_atL_1 : decode method_3_code 1 = .ok (.aload_n 0, 1) := by decide +kernel
theorem d_atL_2 : decode method_3_code 2 = .ok (.arraylength, 1) := by decide +kernel
theorem d_atL_3 : decode method_3_code 3 = .ok (.if_icmp .ge 11, 3) := by decide +kernel
theorem d_atL_6 : decode method_3_code 6 = .ok (.aload_n 0, 1) := by decide +kernel
theorem d_atL_7 : decode method_3_code 7 = .ok (.iload_n 1, 1) := by decide +kernel
theorem d_atL_8 : decode method_3_code 8 = .ok (.laload, 1) := by decide +kernel
theorem d_atL_9 : decode method_3_code 9 = .ok (.lload_n 2, 1) := by decide +kernel
theorem d_atL_10 : decode method_3_code 10 = .ok (.lcmp, 1) := by decide +kernel
theorem d_atL_11 : decode method_3_code 11 = .ok (.ifCond .ne 7, 3) := by decide +kernel
theorem d_atL_14 : decode method_3_code 14 = .ok (.iconst 1, 1) := by decide +kernel
theorem d_atL_15 : decode method_3_code 15 = .ok (.goto 4, 3) := by decide +kernel
theorem d_atL_18 : decode method_3_code 18 = .ok (.iconst 0, 1) := by decide +kernel
theorem d_atL_19 : decode method_3_code 19 = .ok (.ireturn, 1) := by decide +kernel
theorem ef_atL (m : MethodId) (a0 : Addr) (x1 : Int32) (x2 : Int64) : entryFrame m #[(.ref a0), (.int x1), (.long x2)] 4 = mkF m 0 #[.val (.ref a0), .val (.int x1), .val (.long x2), .second] [] := by first | (simp [entryFrame, mkF, argsToLocals, Value.category]; done) | rfl
def F_atL (u : Int64) (x2 : Int64) : Int32 := if (lcmpW u x2) = (0 : Int32) then ((1 : Int32)) else ((0 : Int32))
def Q_atL (Z : State) (a0 : Addr) (x1 : Int32) (x2 : Int64) (n : Int32) (kk : ClassId) (vs : List Value) (u : Int64) (h0 : Heap) (n0 : Nat) (v : Option Value) (h : Heap) (L : List Loc) : Prop := v = some (.int (F_atL u x2)) ∧ Fr n0 L ∧ h = h0
set_option maxRecDepth 65536 in
set_option maxHeartbeats 40000000 in
theorem rm_atL (l : Launch) (Z : State) (a0 : Array Value) (hw : ∀ d ∈ tables_1, d.before a0 Z = true) (ws : List Jvm.Cond) (a0 : Addr) (x1 : Int32) (x2 : Int64) (n : Int32) (kk : ClassId) (vs : List Value) (u : Int64) (h0 : Heap) (n0 : Nat) (Z0 : n0 ≤ h0.size) (hp0 : Arv Z h0 a0 kk .long n vs (.long (0 : Int64))) (hp1 : vs.getD (x1).toNatClampNeg (.long (0 : Int64)) = (.long u)) (hnn : ¬ (x1 < (0 : Int32))) (hlt : x1 < n) :
    MetFree l (⟨"com/example/markov_lumper/markovlumper/decimal/ScalingPowersPinLaw", "at", "([JIJ)Z"⟩ : MethodName) (head1 (Jvm.Cond.code (⟨"com/example/markov_lumper/markovlumper/decimal/ScalingPowersPinLaw", "at", "([JIJ)Z"⟩ : MethodName) method_3_code 4 (some .boolean) :: ws) ({ frames := 0, cells := 0, slots := 0, locals := 0 } : Room)) (fun a U => a = #[(.ref a0), (.int x1), (.long x2)] ∧ Z.Warmed39 U.vm ∧ U.heap = h0) (fun _ _ _ _ _ => True) (fun _ U o U' => ∃ v L, o = .returned v ∧ Q_atL Z a0 x1 x2 n kk vs u h0 n0 v U'.heap L ∧ FrameEnd U o U' L ({ frames := 0, cells := 0, slots := 0, locals := 0 } : Room).cells ({ frames := 0, cells := 0, slots := 0, locals := 0 } : Room).slots) := by
  refine MetFree.of_bodySF (plainFor_of_name pn1) hisR ?_
  intro p e s m args below meth c s₁ Bd hml0 hP hK
  obtain ⟨rfl, hZ, hh⟩ := hP
  have hx := Bd.exec
  have hby := Bd.bytes
  have hml : c.maxLocals = 4 := hml0
  have hown : s.vm.findClass "com/example/markov_lumper/markovlumper/decimal/ScalingPowersPinLaw" = some m.cls := findClass_of_methodNamed Bd.named
  have hnm := (name_of_methodNamed Bd.named Bd.method).1
  have hlk := Bd.notSynchronized
  have hrt := Bd.returns
  have X0 : Stand p l e ({ frames := 0, cells := 0, slots := 0, locals := 0 } : Room) s m #[(.ref a0), (.int x1), (.long x2)] below meth c s₁ [] 0 0 := Stand.of_body Bd
  have e0 : s₁.heap = h0 := by rw [← hh, Bd.state]; rfl
  have N0 := Fr.nil n0
  refine own_cast (P := own_End s (Q_atL Z a0 x1 x2 n kk vs u h0 n0) ({ frames := 0, cells := 0, slots := 0, locals := 0 } : Room).cells ({ frames := 0, cells := 0, slots := 0, locals := 0 } : Room).slots) (ef_atL m a0 x1 x2) ?_
  refine g_iloadN X0 hx hby d_atL_0 rfl (rfl : 0 + 1 = 1) ?_
  refine g_aloadN X0 hx hby d_atL_1 rfl rfl (rfl : 1 + 1 = 2) ?_
  refine g_alen X0 hx hby hZ e0 hp0 d_atL_2 (rfl : 2 + 1 = 3) ?_
  refine g_icF X0 hx hby d_atL_3 (tlt hlt).2.1 (rfl : 3 + 3 = 6) ?_
  refine g_aloadN X0 hx hby d_atL_6 rfl rfl (rfl : 6 + 1 = 7) ?_
  refine g_iloadN X0 hx hby d_atL_7 rfl (rfl : 7 + 1 = 8) ?_
  refine g_laload X0 hx hby hZ e0 (v := (.long u)) hp0 ⟨hnn, hlt⟩ hp1 d_atL_8 (rfl : 8 + 1 = 9) ?_
  refine g_lloadN X0 hx hby d_atL_9 rfl (rfl : 9 + 1 = 10) ?_
  refine g_lcmp X0 hx hby d_atL_10 (rfl : 10 + 1 = 11) ?_
  by_cases c37 : (lcmpW u x2) = (0 : Int32)
  · refine g_ifF X0 hx hby d_atL_11 ((if0 _ _).trans (teq c37).2) (rfl : 11 + 3 = 14) ?_
    refine g_iconst X0 hx hby (1 : Int32) d_atL_14 (by decide) (rfl : 14 + 1 = 15) ?_
    refine g_goto X0 hx hby d_atL_15 (by decide) (pc' := 19) (by decide) ?_
    refine own_retN X0 hx hby hlk (t := .boolean) hrt (by simp) d_atL_19 (by decide) (by decide) ?_
    show Q_atL Z a0 x1 x2 n kk vs u h0 n0 _ s₁.heap _
    exact ⟨(congrArg (fun z => some (Value.int z)) (by rw [F_atL, if_pos c37] <;> rfl)), N0, e0⟩
  · refine g_ifT X0 hx hby d_atL_11 ((if0 _ _).trans (feq c37).2) (by decide) (pc' := 18) (by decide) ?_
    refine g_iconst X0 hx hby (0 : Int32) d_atL_18 (by decide) (rfl : 18 + 1 = 19) ?_
    refine own_retN X0 hx hby hlk (t := .boolean) hrt (by simp) d_atL_19 (by decide) (by decide) ?_
    show Q_atL Z a0 x1 x2 n kk vs u h0 n0 _ s₁.heap _
    exact ⟨(congrArg (fun z => some (Value.int z)) (by rw [F_atL, if_neg c37] <;> rfl)), N0, e0⟩
theorem own_and7 (x : Int32) : x &&& (7 : Int32) = 0 ∨ x &&& (7 : Int32) = 1 ∨ x &&& (7 : Int32) = 2 ∨ x &&& (7 : Int32) = 3 ∨ x &&& (7 : Int32) = 4 ∨ x &&& (7 : Int32) = 5 ∨ x &&& (7 : Int32) = 6 ∨ x &&& (7 : Int32) = 7 := by
  have h := c_and x 7 (by decide)
  have h7 : (7 : Int32).toInt = 7 := by decide
  generalize x &&& (7 : Int32) = y at h ⊢
  have h3 : y.toInt = 0 ∨ y.toInt = 1 ∨ y.toInt = 2 ∨ y.toInt = 3 ∨ y.toInt = 4 ∨ y.toInt = 5 ∨ y.toInt = 6 ∨ y.toInt = 7 := by omega
  simp only [← Int32.toInt_inj]
  exact h3
theorem own_atne {u w : Int64} (h : u = w) : ¬ (F_atL u w = (0 : Int32)) := by
  subst h
  rw [F_atL, if_pos ((lw_eq u u).mpr rfl)]
  decide

theorem pd0 : parseMethodDescriptor "(JI)[J" = some ⟨[.long, .int], some (.array .long)⟩ := by decide +kernel
theorem pd1 : parseMethodDescriptor "([JIJ)Z" = some ⟨[(.array .long), .int, .long], some .boolean⟩ := by decide +kernel
theorem ef_law (m : MethodId) (x0 : Int64) (x2 : Int32) : entryFrame m #[(.long x0), (.int x2)] maxLocals = mkF m 0 #[.val (.long x0), .second, .val (.int x2), .unset, .unset, .unset, .unset, .unset, .unset, .unset, .unset, .unset, .unset, .unset, .unset, .unset, .unset] [] := by first | (simp [entryFrame, mkF, argsToLocals, Value.category, maxLocals]; done) | rfl
def Q_law (Z : State) (x0 : Int64) (x2 : Int32) (h0 : Heap) (n0 : Nat) (v : Option Value) (h : Heap) (L : List Loc) : Prop := v = some (.int (1 : Int32)) ∧ Fr n0 L
set_option maxRecDepth 65536 in
set_option maxHeartbeats 40000000 in
theorem rm_law (l : Launch) (Z : State) (a0 : Array Value) (hw : ∀ d ∈ tables_1, d.before a0 Z = true) (ws : List Jvm.Cond) (x0 : Int64) (x2 : Int32) (h0 : Heap) (n0 : Nat) (Z0 : n0 ≤ h0.size) :
    MetFree l x (head1 (Jvm.Cond.code x code maxLocals ret :: ws) room_1) (fun a U => a = #[(.long x0), (.int x2)] ∧ Z.Warmed39 U.vm ∧ U.heap = h0) (fun _ _ _ _ _ => True) (fun _ U o U' => ∃ v L, o = .returned v ∧ Q_law Z x0 x2 h0 n0 v U'.heap L ∧ FrameEnd U o U' L 16 128) := by
  refine MetFree.of_bodySF (plainFor_of_name pn1) hisR ?_
  intro p e s m args below meth c s₁ Bd hml0 hP hK
  obtain ⟨rfl, hZ, hh⟩ := hP
  have hx := Bd.exec
  have hby := Bd.bytes
  have hml : c.maxLocals = 17 := hml0
  have hown : s.vm.findClass "com/example/markov_lumper/markovlumper/decimal/ScalingPowersPinLaw" = some m.cls := findClass_of_methodNamed Bd.named
  have hnm := (name_of_methodNamed Bd.named Bd.method).1
  have hlk := Bd.notSynchronized
  have hrt := Bd.returns
  have X0 : Stand p l e room_1 s m #[(.long x0), (.int x2)] below meth c s₁ [] 0 0 := Stand.of_body Bd
  have e0 : s₁.heap = h0 := by rw [← hh, Bd.state]; rfl
  have N0 := Fr.nil n0
  refine own_cast (P := own_End s (Q_law Z x0 x2 h0 n0) 16 128) (ef_law m x0 x2) ?_
  refine g_iloadN X0 hx hby at_0 rfl (rfl : 0 + 1 = 1) ?_
  refine g_bipush X0 hx hby (7 : Int32) at_1 (by decide) (rfl : 1 + 2 = 3) ?_
  refine g_iand X0 hx hby at_3 (rfl : 3 + 1 = 4) ?_
  refine g_istoreN X0 hx hby #[.val (.long x0), .second, .val (.int x2), .val (.int (x2 &&& (7 : Int32))), .unset, .unset, .unset, .unset, .unset, .unset, .unset, .unset, .unset, .unset, .unset, .unset, .unset] at_4 rfl (rfl : 4 + 1 = 5) ?_
  rcases own_and7 x2 with hk38 | hk38 | hk38 | hk38 | hk38 | hk38 | hk38 | hk38
  · rw [hk38]
    refine g_lloadN X0 hx hby at_5 rfl (rfl : 5 + 1 = 6) ?_
    refine g_iloadN X0 hx hby at_6 rfl (rfl : 6 + 1 = 7) ?_
    obtain ⟨_, _, ⟨T39, L39, k39, n39⟩, -, X39, ⟨Lc39, hQ39, l39, y39, z39⟩, st39⟩ := Jvm.LawKit.callS X0 hx (y := (⟨"com/example/markov_lumper/markovlumper/decimal/Scaling", "powers", "(JI)[J"⟩ : MethodName)) hown (mvT hZ (hw _ (List.mem_of_getElem? (i := 0) rfl))) (mvT hZ (hw _ (List.mem_of_getElem? (i := 1) rfl))) (mvT hZ (hw _ (List.mem_of_getElem? (i := 2) rfl))) (mvT hZ (hw _ (List.mem_of_getElem? (i := 3) rfl))) (by decide) (backOf (W := 0) (rm_pw0 l Z a0 hw [] x0 h0 n0 Z0) hZ (hw _ (List.mem_of_getElem? (i := 3) rfl)) (hw _ (List.mem_of_getElem? (i := 2) rfl)) (by decide) (by decide)) (g := (mkF m 7 #[.val (.long x0), .second, .val (.int x2), .val (.int (0 : Int32)), .unset, .unset, .unset, .unset, .unset, .unset, .unset, .unset, .unset, .unset, .unset, .unset, .unset] [(.int (0 : Int32)), (.long x0)])) rfl (by rw [hml]; rfl) (argsL := [(.long x0), (.int (0 : Int32))]) (rest := []) (lenOf pd0 rfl) rfl (by show 2 * 0 + _ ≤ _; exact Nat.le_of_eq rfl) (hb hby at_7) (fun _ _ => ⟨rfl, e0, (by decide : 0 + 1 ≤ _), (by decide : 0 + 0 ≤ _)⟩)
    dsimp only [Pt.U, Pt.locs, Pt.cells, Pt.slots] at X39 l39 y39 z39 st39 hQ39
    subst l39 y39 z39
    obtain ⟨b_39, kk_39, rfl, N39q, K39, q39_0, q39_1⟩ := hQ39
    have N39 := Fr.app N0 N39q
    have Z39 : n0 ≤ T39.heap.size := Nat.le_trans Z0 K39.1
    have ge40 : n0 ≤ b_39 := Nat.le_trans Z0 q39_0
    refine own_go st39 ?_
    show own_Got p e below _ T39 (mkF m 10 #[.val (.long x0), .second, .val (.int x2), .val (.int (0 : Int32)), .unset, .unset, .unset, .unset, .unset, .unset, .unset, .unset, .unset, .unset, .unset, .unset, .unset] [(.ref b_39)])
    refine g_astore X39 hx hby #[.val (.long x0), .second, .val (.int x2), .val (.int (0 : Int32)), .val (.ref b_39), .unset, .unset, .unset, .unset, .unset, .unset, .unset, .unset, .unset, .unset, .unset, .unset] at_10 rfl rfl (rfl : 10 + 2 = 12) ?_
    refine g_aload X39 hx hby at_12 rfl rfl (rfl : 12 + 2 = 14) ?_
    refine g_alen X39 hx hby hZ rfl q39_1 at_14 (rfl : 14 + 1 = 15) ?_
    refine g_iloadN X39 hx hby at_15 rfl (rfl : 15 + 1 = 16) ?_
    refine g_icT X39 hx hby at_16 (teq (by decide : (0 : Int32) = (0 : Int32))).1 (by decide) (pc' := 21) (by decide) ?_
    refine g_lloadN X39 hx hby at_21 rfl (rfl : 21 + 1 = 22) ?_
    refine g_lstore X39 hx hby #[.val (.long x0), .second, .val (.int x2), .val (.int (0 : Int32)), .val (.ref b_39), .val (.long x0), .second, .unset, .unset, .unset, .unset, .unset, .unset, .unset, .unset, .unset, .unset] at_22 rfl (rfl : 22 + 2 = 24) ?_
    refine g_lload X39 hx hby at_24 rfl (rfl : 24 + 2 = 26) ?_
    refine g_lload X39 hx hby at_26 rfl (rfl : 26 + 2 = 28) ?_
    refine g_lmul X39 hx hby at_28 (rfl : 28 + 1 = 29) ?_
    refine g_lstore X39 hx hby #[.val (.long x0), .second, .val (.int x2), .val (.int (0 : Int32)), .val (.ref b_39), .val (.long x0), .second, .val (.long (x0 * x0)), .second, .unset, .unset, .unset, .unset, .unset, .unset, .unset, .unset] at_29 rfl (rfl : 29 + 2 = 31) ?_
    refine g_lload X39 hx hby at_31 rfl (rfl : 31 + 2 = 33) ?_
    refine g_lload X39 hx hby at_33 rfl (rfl : 33 + 2 = 35) ?_
    refine g_lmul X39 hx hby at_35 (rfl : 35 + 1 = 36) ?_
    refine g_lstore X39 hx hby #[.val (.long x0), .second, .val (.int x2), .val (.int (0 : Int32)), .val (.ref b_39), .val (.long x0), .second, .val (.long (x0 * x0)), .second, .val (.long ((x0 * x0) * x0)), .second, .unset, .unset, .unset, .unset, .unset, .unset] at_36 rfl (rfl : 36 + 2 = 38) ?_
    refine g_lload X39 hx hby at_38 rfl (rfl : 38 + 2 = 40) ?_
    refine g_lload X39 hx hby at_40 rfl (rfl : 40 + 2 = 42) ?_
    refine g_lmul X39 hx hby at_42 (rfl : 42 + 1 = 43) ?_
    refine g_lstore X39 hx hby #[.val (.long x0), .second, .val (.int x2), .val (.int (0 : Int32)), .val (.ref b_39), .val (.long x0), .second, .val (.long (x0 * x0)), .second, .val (.long ((x0 * x0) * x0)), .second, .val (.long ((x0 * x0) * (x0 * x0))), .second, .unset, .unset, .unset, .unset] at_43 rfl (rfl : 43 + 2 = 45) ?_
    refine g_lload X39 hx hby at_45 rfl (rfl : 45 + 2 = 47) ?_
    refine g_lload X39 hx hby at_47 rfl (rfl : 47 + 2 = 49) ?_
    refine g_lmul X39 hx hby at_49 (rfl : 49 + 1 = 50) ?_
    refine g_lstore X39 hx hby #[.val (.long x0), .second, .val (.int x2), .val (.int (0 : Int32)), .val (.ref b_39), .val (.long x0), .second, .val (.long (x0 * x0)), .second, .val (.long ((x0 * x0) * x0)), .second, .val (.long ((x0 * x0) * (x0 * x0))), .second, .val (.long (((x0 * x0) * (x0 * x0)) * x0)), .second, .unset, .unset] at_50 rfl (rfl : 50 + 2 = 52) ?_
    refine g_lload X39 hx hby at_52 rfl (rfl : 52 + 2 = 54) ?_
    refine g_lload X39 hx hby at_54 rfl (rfl : 54 + 2 = 56) ?_
    refine g_lmul X39 hx hby at_56 (rfl : 56 + 1 = 57) ?_
    refine g_lstore X39 hx hby #[.val (.long x0), .second, .val (.int x2), .val (.int (0 : Int32)), .val (.ref b_39), .val (.long x0), .second, .val (.long (x0 * x0)), .second, .val (.long ((x0 * x0) * x0)), .second, .val (.long ((x0 * x0) * (x0 * x0))), .second, .val (.long (((x0 * x0) * (x0 * x0)) * x0)), .second, .val (.long (((x0 * x0) * x0) * ((x0 * x0) * x0))), .second] at_57 rfl (rfl : 57 + 2 = 59) ?_
    refine g_aload X39 hx hby at_59 rfl rfl (rfl : 59 + 2 = 61) ?_
    refine g_iconst X39 hx hby (0 : Int32) at_61 (by decide) (rfl : 61 + 1 = 62) ?_
    refine g_lconst X39 hx hby (1 : Int64) at_62 (by decide) (rfl : 62 + 1 = 63) ?_
    obtain ⟨_, _, ⟨T41, L41, k41, n41⟩, -, X41, ⟨Lc41, hQ41, l41, y41, z41⟩, st41⟩ := Jvm.LawKit.callS X39 hx (y := (⟨"com/example/markov_lumper/markovlumper/decimal/ScalingPowersPinLaw", "at", "([JIJ)Z"⟩ : MethodName)) hown (mvT hZ (hw _ (List.mem_of_getElem? (i := 5) rfl))) (mvT hZ (hw _ (List.mem_of_getElem? (i := 6) rfl))) (mvT hZ (hw _ (List.mem_of_getElem? (i := 7) rfl))) (mvT hZ (hw _ (List.mem_of_getElem? (i := 8) rfl))) (by decide) (backOf (W := 0) (rm_atG l Z a0 hw [] b_39 (0 : Int32) (1 : Int64) (0 : Int32) kk_39 [] T39.heap n0 Z39 q39_1 (by decide)) hZ (hw _ (List.mem_of_getElem? (i := 8) rfl)) (hw _ (List.mem_of_getElem? (i := 7) rfl)) (by decide) (by decide)) (g := (mkF m 63 #[.val (.long x0), .second, .val (.int x2), .val (.int (0 : Int32)), .val (.ref b_39), .val (.long x0), .second, .val (.long (x0 * x0)), .second, .val (.long ((x0 * x0) * x0)), .second, .val (.long ((x0 * x0) * (x0 * x0))), .second, .val (.long (((x0 * x0) * (x0 * x0)) * x0)), .second, .val (.long (((x0 * x0) * x0) * ((x0 * x0) * x0))), .second] [(.long (1 : Int64)), (.int (0 : Int32)), (.ref b_39)])) rfl (by rw [hml]; rfl) (argsL := [(.ref b_39), (.int (0 : Int32)), (.long (1 : Int64))]) (rest := []) (lenOf pd1 rfl) rfl (by show 2 * 0 + _ ≤ _; exact Nat.le_of_eq rfl) (hb hby at_63) (fun _ _ => ⟨rfl, rfl, (by decide : 1 + 0 ≤ _), (by decide : 0 + 0 ≤ _)⟩)
    dsimp only [Pt.U, Pt.locs, Pt.cells, Pt.slots] at X41 l41 y41 z41 st41 hQ41
    subst l41 y41 z41
    obtain ⟨rfl, N41q, eq41⟩ := hQ41
    have N41 := Fr.app N39 N41q
    refine own_go st41 ?_
    show own_Got p e below _ T41 (mkF m 66 #[.val (.long x0), .second, .val (.int x2), .val (.int (0 : Int32)), .val (.ref b_39), .val (.long x0), .second, .val (.long (x0 * x0)), .second, .val (.long ((x0 * x0) * x0)), .second, .val (.long ((x0 * x0) * (x0 * x0))), .second, .val (.long (((x0 * x0) * (x0 * x0)) * x0)), .second, .val (.long (((x0 * x0) * x0) * ((x0 * x0) * x0))), .second] [(.int (1 : Int32))])
    refine g_ifF X41 hx hby at_66 ((if0 _ _).trans (feq (by decide : ¬ ((1 : Int32) = (0 : Int32)))).1) (rfl : 66 + 3 = 69) ?_
    refine g_aload X41 hx hby at_69 rfl rfl (rfl : 69 + 2 = 71) ?_
    refine g_iconst X41 hx hby (1 : Int32) at_71 (by decide) (rfl : 71 + 1 = 72) ?_
    refine g_lload X41 hx hby at_72 rfl (rfl : 72 + 2 = 74) ?_
    obtain ⟨_, _, ⟨T42, L42, k42, n42⟩, -, X42, ⟨Lc42, hQ42, l42, y42, z42⟩, st42⟩ := Jvm.LawKit.callS X41 hx (y := (⟨"com/example/markov_lumper/markovlumper/decimal/ScalingPowersPinLaw", "at", "([JIJ)Z"⟩ : MethodName)) hown (mvT hZ (hw _ (List.mem_of_getElem? (i := 5) rfl))) (mvT hZ (hw _ (List.mem_of_getElem? (i := 6) rfl))) (mvT hZ (hw _ (List.mem_of_getElem? (i := 7) rfl))) (mvT hZ (hw _ (List.mem_of_getElem? (i := 8) rfl))) (by decide) (backOf (W := 0) (rm_atG l Z a0 hw [] b_39 (1 : Int32) x0 (0 : Int32) kk_39 [] T39.heap n0 Z39 q39_1 (by decide)) hZ (hw _ (List.mem_of_getElem? (i := 8) rfl)) (hw _ (List.mem_of_getElem? (i := 7) rfl)) (by decide) (by decide)) (g := (mkF m 74 #[.val (.long x0), .second, .val (.int x2), .val (.int (0 : Int32)), .val (.ref b_39), .val (.long x0), .second, .val (.long (x0 * x0)), .second, .val (.long ((x0 * x0) * x0)), .second, .val (.long ((x0 * x0) * (x0 * x0))), .second, .val (.long (((x0 * x0) * (x0 * x0)) * x0)), .second, .val (.long (((x0 * x0) * x0) * ((x0 * x0) * x0))), .second] [(.long x0), (.int (1 : Int32)), (.ref b_39)])) rfl (by rw [hml]; rfl) (argsL := [(.ref b_39), (.int (1 : Int32)), (.long x0)]) (rest := []) (lenOf pd1 rfl) rfl (by show 2 * 0 + _ ≤ _; exact Nat.le_of_eq rfl) (hb hby at_74) (fun _ _ => ⟨rfl, eq41, (by decide : 1 + 0 ≤ _), (by decide : 0 + 0 ≤ _)⟩)
    dsimp only [Pt.U, Pt.locs, Pt.cells, Pt.slots] at X42 l42 y42 z42 st42 hQ42
    subst l42 y42 z42
    obtain ⟨rfl, N42q, eq42⟩ := hQ42
    have N42 := Fr.app N41 N42q
    refine own_go st42 ?_
    show own_Got p e below _ T42 (mkF m 77 #[.val (.long x0), .second, .val (.int x2), .val (.int (0 : Int32)), .val (.ref b_39), .val (.long x0), .second, .val (.long (x0 * x0)), .second, .val (.long ((x0 * x0) * x0)), .second, .val (.long ((x0 * x0) * (x0 * x0))), .second, .val (.long (((x0 * x0) * (x0 * x0)) * x0)), .second, .val (.long (((x0 * x0) * x0) * ((x0 * x0) * x0))), .second] [(.int (1 : Int32))])
    refine g_ifF X42 hx hby at_77 ((if0 _ _).trans (feq (by decide : ¬ ((1 : Int32) = (0 : Int32)))).1) (rfl : 77 + 3 = 80) ?_
    refine g_aload X42 hx hby at_80 rfl rfl (rfl : 80 + 2 = 82) ?_
    refine g_iconst X42 hx hby (2 : Int32) at_82 (by decide) (rfl : 82 + 1 = 83) ?_
    refine g_lload X42 hx hby at_83 rfl (rfl : 83 + 2 = 85) ?_
    obtain ⟨_, _, ⟨T43, L43, k43, n43⟩, -, X43, ⟨Lc43, hQ43, l43, y43, z43⟩, st43⟩ := Jvm.LawKit.callS X42 hx (y := (⟨"com/example/markov_lumper/markovlumper/decimal/ScalingPowersPinLaw", "at", "([JIJ)Z"⟩ : MethodName)) hown (mvT hZ (hw _ (List.mem_of_getElem? (i := 5) rfl))) (mvT hZ (hw _ (List.mem_of_getElem? (i := 6) rfl))) (mvT hZ (hw _ (List.mem_of_getElem? (i := 7) rfl))) (mvT hZ (hw _ (List.mem_of_getElem? (i := 8) rfl))) (by decide) (backOf (W := 0) (rm_atG l Z a0 hw [] b_39 (2 : Int32) (x0 * x0) (0 : Int32) kk_39 [] T39.heap n0 Z39 q39_1 (by decide)) hZ (hw _ (List.mem_of_getElem? (i := 8) rfl)) (hw _ (List.mem_of_getElem? (i := 7) rfl)) (by decide) (by decide)) (g := (mkF m 85 #[.val (.long x0), .second, .val (.int x2), .val (.int (0 : Int32)), .val (.ref b_39), .val (.long x0), .second, .val (.long (x0 * x0)), .second, .val (.long ((x0 * x0) * x0)), .second, .val (.long ((x0 * x0) * (x0 * x0))), .second, .val (.long (((x0 * x0) * (x0 * x0)) * x0)), .second, .val (.long (((x0 * x0) * x0) * ((x0 * x0) * x0))), .second] [(.long (x0 * x0)), (.int (2 : Int32)), (.ref b_39)])) rfl (by rw [hml]; rfl) (argsL := [(.ref b_39), (.int (2 : Int32)), (.long (x0 * x0))]) (rest := []) (lenOf pd1 rfl) rfl (by show 2 * 0 + _ ≤ _; exact Nat.le_of_eq rfl) (hb hby at_85) (fun _ _ => ⟨rfl, eq42, (by decide : 1 + 0 ≤ _), (by decide : 0 + 0 ≤ _)⟩)
    dsimp only [Pt.U, Pt.locs, Pt.cells, Pt.slots] at X43 l43 y43 z43 st43 hQ43
    subst l43 y43 z43
    obtain ⟨rfl, N43q, eq43⟩ := hQ43
    have N43 := Fr.app N42 N43q
    refine own_go st43 ?_
    show own_Got p e below _ T43 (mkF m 88 #[.val (.long x0), .second, .val (.int x2), .val (.int (0 : Int32)), .val (.ref b_39), .val (.long x0), .second, .val (.long (x0 * x0)), .second, .val (.long ((x0 * x0) * x0)), .second, .val (.long ((x0 * x0) * (x0 * x0))), .second, .val (.long (((x0 * x0) * (x0 * x0)) * x0)), .second, .val (.long (((x0 * x0) * x0) * ((x0 * x0) * x0))), .second] [(.int (1 : Int32))])
    refine g_ifF X43 hx hby at_88 ((if0 _ _).trans (feq (by decide : ¬ ((1 : Int32) = (0 : Int32)))).1) (rfl : 88 + 3 = 91) ?_
    refine g_aload X43 hx hby at_91 rfl rfl (rfl : 91 + 2 = 93) ?_
    refine g_iconst X43 hx hby (3 : Int32) at_93 (by decide) (rfl : 93 + 1 = 94) ?_
    refine g_lload X43 hx hby at_94 rfl (rfl : 94 + 2 = 96) ?_
    obtain ⟨_, _, ⟨T44, L44, k44, n44⟩, -, X44, ⟨Lc44, hQ44, l44, y44, z44⟩, st44⟩ := Jvm.LawKit.callS X43 hx (y := (⟨"com/example/markov_lumper/markovlumper/decimal/ScalingPowersPinLaw", "at", "([JIJ)Z"⟩ : MethodName)) hown (mvT hZ (hw _ (List.mem_of_getElem? (i := 5) rfl))) (mvT hZ (hw _ (List.mem_of_getElem? (i := 6) rfl))) (mvT hZ (hw _ (List.mem_of_getElem? (i := 7) rfl))) (mvT hZ (hw _ (List.mem_of_getElem? (i := 8) rfl))) (by decide) (backOf (W := 0) (rm_atG l Z a0 hw [] b_39 (3 : Int32) ((x0 * x0) * x0) (0 : Int32) kk_39 [] T39.heap n0 Z39 q39_1 (by decide)) hZ (hw _ (List.mem_of_getElem? (i := 8) rfl)) (hw _ (List.mem_of_getElem? (i := 7) rfl)) (by decide) (by decide)) (g := (mkF m 96 #[.val (.long x0), .second, .val (.int x2), .val (.int (0 : Int32)), .val (.ref b_39), .val (.long x0), .second, .val (.long (x0 * x0)), .second, .val (.long ((x0 * x0) * x0)), .second, .val (.long ((x0 * x0) * (x0 * x0))), .second, .val (.long (((x0 * x0) * (x0 * x0)) * x0)), .second, .val (.long (((x0 * x0) * x0) * ((x0 * x0) * x0))), .second] [(.long ((x0 * x0) * x0)), (.int (3 : Int32)), (.ref b_39)])) rfl (by rw [hml]; rfl) (argsL := [(.ref b_39), (.int (3 : Int32)), (.long ((x0 * x0) * x0))]) (rest := []) (lenOf pd1 rfl) rfl (by show 2 * 0 + _ ≤ _; exact Nat.le_of_eq rfl) (hb hby at_96) (fun _ _ => ⟨rfl, eq43, (by decide : 1 + 0 ≤ _), (by decide : 0 + 0 ≤ _)⟩)
    dsimp only [Pt.U, Pt.locs, Pt.cells, Pt.slots] at X44 l44 y44 z44 st44 hQ44
    subst l44 y44 z44
    obtain ⟨rfl, N44q, eq44⟩ := hQ44
    have N44 := Fr.app N43 N44q
    refine own_go st44 ?_
    show own_Got p e below _ T44 (mkF m 99 #[.val (.long x0), .second, .val (.int x2), .val (.int (0 : Int32)), .val (.ref b_39), .val (.long x0), .second, .val (.long (x0 * x0)), .second, .val (.long ((x0 * x0) * x0)), .second, .val (.long ((x0 * x0) * (x0 * x0))), .second, .val (.long (((x0 * x0) * (x0 * x0)) * x0)), .second, .val (.long (((x0 * x0) * x0) * ((x0 * x0) * x0))), .second] [(.int (1 : Int32))])
    refine g_ifF X44 hx hby at_99 ((if0 _ _).trans (feq (by decide : ¬ ((1 : Int32) = (0 : Int32)))).1) (rfl : 99 + 3 = 102) ?_
    refine g_aload X44 hx hby at_102 rfl rfl (rfl : 102 + 2 = 104) ?_
    refine g_iconst X44 hx hby (4 : Int32) at_104 (by decide) (rfl : 104 + 1 = 105) ?_
    refine g_lload X44 hx hby at_105 rfl (rfl : 105 + 2 = 107) ?_
    obtain ⟨_, _, ⟨T45, L45, k45, n45⟩, -, X45, ⟨Lc45, hQ45, l45, y45, z45⟩, st45⟩ := Jvm.LawKit.callS X44 hx (y := (⟨"com/example/markov_lumper/markovlumper/decimal/ScalingPowersPinLaw", "at", "([JIJ)Z"⟩ : MethodName)) hown (mvT hZ (hw _ (List.mem_of_getElem? (i := 5) rfl))) (mvT hZ (hw _ (List.mem_of_getElem? (i := 6) rfl))) (mvT hZ (hw _ (List.mem_of_getElem? (i := 7) rfl))) (mvT hZ (hw _ (List.mem_of_getElem? (i := 8) rfl))) (by decide) (backOf (W := 0) (rm_atG l Z a0 hw [] b_39 (4 : Int32) ((x0 * x0) * (x0 * x0)) (0 : Int32) kk_39 [] T39.heap n0 Z39 q39_1 (by decide)) hZ (hw _ (List.mem_of_getElem? (i := 8) rfl)) (hw _ (List.mem_of_getElem? (i := 7) rfl)) (by decide) (by decide)) (g := (mkF m 107 #[.val (.long x0), .second, .val (.int x2), .val (.int (0 : Int32)), .val (.ref b_39), .val (.long x0), .second, .val (.long (x0 * x0)), .second, .val (.long ((x0 * x0) * x0)), .second, .val (.long ((x0 * x0) * (x0 * x0))), .second, .val (.long (((x0 * x0) * (x0 * x0)) * x0)), .second, .val (.long (((x0 * x0) * x0) * ((x0 * x0) * x0))), .second] [(.long ((x0 * x0) * (x0 * x0))), (.int (4 : Int32)), (.ref b_39)])) rfl (by rw [hml]; rfl) (argsL := [(.ref b_39), (.int (4 : Int32)), (.long ((x0 * x0) * (x0 * x0)))]) (rest := []) (lenOf pd1 rfl) rfl (by show 2 * 0 + _ ≤ _; exact Nat.le_of_eq rfl) (hb hby at_107) (fun _ _ => ⟨rfl, eq44, (by decide : 1 + 0 ≤ _), (by decide : 0 + 0 ≤ _)⟩)
    dsimp only [Pt.U, Pt.locs, Pt.cells, Pt.slots] at X45 l45 y45 z45 st45 hQ45
    subst l45 y45 z45
    obtain ⟨rfl, N45q, eq45⟩ := hQ45
    have N45 := Fr.app N44 N45q
    refine own_go st45 ?_
    show own_Got p e below _ T45 (mkF m 110 #[.val (.long x0), .second, .val (.int x2), .val (.int (0 : Int32)), .val (.ref b_39), .val (.long x0), .second, .val (.long (x0 * x0)), .second, .val (.long ((x0 * x0) * x0)), .second, .val (.long ((x0 * x0) * (x0 * x0))), .second, .val (.long (((x0 * x0) * (x0 * x0)) * x0)), .second, .val (.long (((x0 * x0) * x0) * ((x0 * x0) * x0))), .second] [(.int (1 : Int32))])
    refine g_ifF X45 hx hby at_110 ((if0 _ _).trans (feq (by decide : ¬ ((1 : Int32) = (0 : Int32)))).1) (rfl : 110 + 3 = 113) ?_
    refine g_aload X45 hx hby at_113 rfl rfl (rfl : 113 + 2 = 115) ?_
    refine g_iconst X45 hx hby (5 : Int32) at_115 (by decide) (rfl : 115 + 1 = 116) ?_
    refine g_lload X45 hx hby at_116 rfl (rfl : 116 + 2 = 118) ?_
    obtain ⟨_, _, ⟨T46, L46, k46, n46⟩, -, X46, ⟨Lc46, hQ46, l46, y46, z46⟩, st46⟩ := Jvm.LawKit.callS X45 hx (y := (⟨"com/example/markov_lumper/markovlumper/decimal/ScalingPowersPinLaw", "at", "([JIJ)Z"⟩ : MethodName)) hown (mvT hZ (hw _ (List.mem_of_getElem? (i := 5) rfl))) (mvT hZ (hw _ (List.mem_of_getElem? (i := 6) rfl))) (mvT hZ (hw _ (List.mem_of_getElem? (i := 7) rfl))) (mvT hZ (hw _ (List.mem_of_getElem? (i := 8) rfl))) (by decide) (backOf (W := 0) (rm_atG l Z a0 hw [] b_39 (5 : Int32) (((x0 * x0) * (x0 * x0)) * x0) (0 : Int32) kk_39 [] T39.heap n0 Z39 q39_1 (by decide)) hZ (hw _ (List.mem_of_getElem? (i := 8) rfl)) (hw _ (List.mem_of_getElem? (i := 7) rfl)) (by decide) (by decide)) (g := (mkF m 118 #[.val (.long x0), .second, .val (.int x2), .val (.int (0 : Int32)), .val (.ref b_39), .val (.long x0), .second, .val (.long (x0 * x0)), .second, .val (.long ((x0 * x0) * x0)), .second, .val (.long ((x0 * x0) * (x0 * x0))), .second, .val (.long (((x0 * x0) * (x0 * x0)) * x0)), .second, .val (.long (((x0 * x0) * x0) * ((x0 * x0) * x0))), .second] [(.long (((x0 * x0) * (x0 * x0)) * x0)), (.int (5 : Int32)), (.ref b_39)])) rfl (by rw [hml]; rfl) (argsL := [(.ref b_39), (.int (5 : Int32)), (.long (((x0 * x0) * (x0 * x0)) * x0))]) (rest := []) (lenOf pd1 rfl) rfl (by show 2 * 0 + _ ≤ _; exact Nat.le_of_eq rfl) (hb hby at_118) (fun _ _ => ⟨rfl, eq45, (by decide : 1 + 0 ≤ _), (by decide : 0 + 0 ≤ _)⟩)
    dsimp only [Pt.U, Pt.locs, Pt.cells, Pt.slots] at X46 l46 y46 z46 st46 hQ46
    subst l46 y46 z46
    obtain ⟨rfl, N46q, eq46⟩ := hQ46
    have N46 := Fr.app N45 N46q
    refine own_go st46 ?_
    show own_Got p e below _ T46 (mkF m 121 #[.val (.long x0), .second, .val (.int x2), .val (.int (0 : Int32)), .val (.ref b_39), .val (.long x0), .second, .val (.long (x0 * x0)), .second, .val (.long ((x0 * x0) * x0)), .second, .val (.long ((x0 * x0) * (x0 * x0))), .second, .val (.long (((x0 * x0) * (x0 * x0)) * x0)), .second, .val (.long (((x0 * x0) * x0) * ((x0 * x0) * x0))), .second] [(.int (1 : Int32))])
    refine g_ifF X46 hx hby at_121 ((if0 _ _).trans (feq (by decide : ¬ ((1 : Int32) = (0 : Int32)))).1) (rfl : 121 + 3 = 124) ?_
    refine g_aload X46 hx hby at_124 rfl rfl (rfl : 124 + 2 = 126) ?_
    refine g_bipush X46 hx hby (6 : Int32) at_126 (by decide) (rfl : 126 + 2 = 128) ?_
    refine g_lload X46 hx hby at_128 rfl (rfl : 128 + 2 = 130) ?_
    obtain ⟨_, _, ⟨T47, L47, k47, n47⟩, -, X47, ⟨Lc47, hQ47, l47, y47, z47⟩, st47⟩ := Jvm.LawKit.callS X46 hx (y := (⟨"com/example/markov_lumper/markovlumper/decimal/ScalingPowersPinLaw", "at", "([JIJ)Z"⟩ : MethodName)) hown (mvT hZ (hw _ (List.mem_of_getElem? (i := 5) rfl))) (mvT hZ (hw _ (List.mem_of_getElem? (i := 6) rfl))) (mvT hZ (hw _ (List.mem_of_getElem? (i := 7) rfl))) (mvT hZ (hw _ (List.mem_of_getElem? (i := 8) rfl))) (by decide) (backOf (W := 0) (rm_atG l Z a0 hw [] b_39 (6 : Int32) (((x0 * x0) * x0) * ((x0 * x0) * x0)) (0 : Int32) kk_39 [] T39.heap n0 Z39 q39_1 (by decide)) hZ (hw _ (List.mem_of_getElem? (i := 8) rfl)) (hw _ (List.mem_of_getElem? (i := 7) rfl)) (by decide) (by decide)) (g := (mkF m 130 #[.val (.long x0), .second, .val (.int x2), .val (.int (0 : Int32)), .val (.ref b_39), .val (.long x0), .second, .val (.long (x0 * x0)), .second, .val (.long ((x0 * x0) * x0)), .second, .val (.long ((x0 * x0) * (x0 * x0))), .second, .val (.long (((x0 * x0) * (x0 * x0)) * x0)), .second, .val (.long (((x0 * x0) * x0) * ((x0 * x0) * x0))), .second] [(.long (((x0 * x0) * x0) * ((x0 * x0) * x0))), (.int (6 : Int32)), (.ref b_39)])) rfl (by rw [hml]; rfl) (argsL := [(.ref b_39), (.int (6 : Int32)), (.long (((x0 * x0) * x0) * ((x0 * x0) * x0)))]) (rest := []) (lenOf pd1 rfl) rfl (by show 2 * 0 + _ ≤ _; exact Nat.le_of_eq rfl) (hb hby at_130) (fun _ _ => ⟨rfl, eq46, (by decide : 1 + 0 ≤ _), (by decide : 0 + 0 ≤ _)⟩)
    dsimp only [Pt.U, Pt.locs, Pt.cells, Pt.slots] at X47 l47 y47 z47 st47 hQ47
    subst l47 y47 z47
    obtain ⟨rfl, N47q, eq47⟩ := hQ47
    have N47 := Fr.app N46 N47q
    refine own_go st47 ?_
    show own_Got p e below _ T47 (mkF m 133 #[.val (.long x0), .second, .val (.int x2), .val (.int (0 : Int32)), .val (.ref b_39), .val (.long x0), .second, .val (.long (x0 * x0)), .second, .val (.long ((x0 * x0) * x0)), .second, .val (.long ((x0 * x0) * (x0 * x0))), .second, .val (.long (((x0 * x0) * (x0 * x0)) * x0)), .second, .val (.long (((x0 * x0) * x0) * ((x0 * x0) * x0))), .second] [(.int (1 : Int32))])
    refine g_ifF X47 hx hby at_133 ((if0 _ _).trans (feq (by decide : ¬ ((1 : Int32) = (0 : Int32)))).1) (rfl : 133 + 3 = 136) ?_
    refine g_iconst X47 hx hby (1 : Int32) at_136 (by decide) (rfl : 136 + 1 = 137) ?_
    refine g_goto X47 hx hby at_137 (by decide) (pc' := 141) (by decide) ?_
    refine own_retN X47 hx hby hlk (t := .boolean) hrt (by simp) at_141 (by decide) (by decide) ?_
    show Q_law Z x0 x2 h0 n0 _ T47.heap _
    exact ⟨rfl, N47⟩
  · rw [hk38]
    refine g_lloadN X0 hx hby at_5 rfl (rfl : 5 + 1 = 6) ?_
    refine g_iloadN X0 hx hby at_6 rfl (rfl : 6 + 1 = 7) ?_
    obtain ⟨_, _, ⟨T48, L48, k48, n48⟩, -, X48, ⟨Lc48, hQ48, l48, y48, z48⟩, st48⟩ := Jvm.LawKit.callS X0 hx (y := (⟨"com/example/markov_lumper/markovlumper/decimal/Scaling", "powers", "(JI)[J"⟩ : MethodName)) hown (mvT hZ (hw _ (List.mem_of_getElem? (i := 0) rfl))) (mvT hZ (hw _ (List.mem_of_getElem? (i := 1) rfl))) (mvT hZ (hw _ (List.mem_of_getElem? (i := 2) rfl))) (mvT hZ (hw _ (List.mem_of_getElem? (i := 3) rfl))) (by decide) (backOf (W := 0) (rm_pw1 l Z a0 hw [] x0 h0 n0 Z0) hZ (hw _ (List.mem_of_getElem? (i := 3) rfl)) (hw _ (List.mem_of_getElem? (i := 2) rfl)) (by decide) (by decide)) (g := (mkF m 7 #[.val (.long x0), .second, .val (.int x2), .val (.int (1 : Int32)), .unset, .unset, .unset, .unset, .unset, .unset, .unset, .unset, .unset, .unset, .unset, .unset, .unset] [(.int (1 : Int32)), (.long x0)])) rfl (by rw [hml]; rfl) (argsL := [(.long x0), (.int (1 : Int32))]) (rest := []) (lenOf pd0 rfl) rfl (by show 2 * 0 + _ ≤ _; exact Nat.le_of_eq rfl) (hb hby at_7) (fun _ _ => ⟨rfl, e0, (by decide : 0 + 1 ≤ _), (by decide : 0 + 1 ≤ _)⟩)
    dsimp only [Pt.U, Pt.locs, Pt.cells, Pt.slots] at X48 l48 y48 z48 st48 hQ48
    subst l48 y48 z48
    obtain ⟨b_48, kk_48, rfl, N48q, K48, q48_0, q48_1⟩ := hQ48
    have N48 := Fr.app N0 N48q
    have Z48 : n0 ≤ T48.heap.size := Nat.le_trans Z0 K48.1
    have ge49 : n0 ≤ b_48 := Nat.le_trans Z0 q48_0
    refine own_go st48 ?_
    show own_Got p e below _ T48 (mkF m 10 #[.val (.long x0), .second, .val (.int x2), .val (.int (1 : Int32)), .unset, .unset, .unset, .unset, .unset, .unset, .unset, .unset, .unset, .unset, .unset, .unset, .unset] [(.ref b_48)])
    refine g_astore X48 hx hby #[.val (.long x0), .second, .val (.int x2), .val (.int (1 : Int32)), .val (.ref b_48), .unset, .unset, .unset, .unset, .unset, .unset, .unset, .unset, .unset, .unset, .unset, .unset] at_10 rfl rfl (rfl : 10 + 2 = 12) ?_
    refine g_aload X48 hx hby at_12 rfl rfl (rfl : 12 + 2 = 14) ?_
    refine g_alen X48 hx hby hZ rfl q48_1 at_14 (rfl : 14 + 1 = 15) ?_
    refine g_iloadN X48 hx hby at_15 rfl (rfl : 15 + 1 = 16) ?_
    refine g_icT X48 hx hby at_16 (teq (by decide : (1 : Int32) = (1 : Int32))).1 (by decide) (pc' := 21) (by decide) ?_
    refine g_lloadN X48 hx hby at_21 rfl (rfl : 21 + 1 = 22) ?_
    refine g_lstore X48 hx hby #[.val (.long x0), .second, .val (.int x2), .val (.int (1 : Int32)), .val (.ref b_48), .val (.long x0), .second, .unset, .unset, .unset, .unset, .unset, .unset, .unset, .unset, .unset, .unset] at_22 rfl (rfl : 22 + 2 = 24) ?_
    refine g_lload X48 hx hby at_24 rfl (rfl : 24 + 2 = 26) ?_
    refine g_lload X48 hx hby at_26 rfl (rfl : 26 + 2 = 28) ?_
    refine g_lmul X48 hx hby at_28 (rfl : 28 + 1 = 29) ?_
    refine g_lstore X48 hx hby #[.val (.long x0), .second, .val (.int x2), .val (.int (1 : Int32)), .val (.ref b_48), .val (.long x0), .second, .val (.long (x0 * x0)), .second, .unset, .unset, .unset, .unset, .unset, .unset, .unset, .unset] at_29 rfl (rfl : 29 + 2 = 31) ?_
    refine g_lload X48 hx hby at_31 rfl (rfl : 31 + 2 = 33) ?_
    refine g_lload X48 hx hby at_33 rfl (rfl : 33 + 2 = 35) ?_
    refine g_lmul X48 hx hby at_35 (rfl : 35 + 1 = 36) ?_
    refine g_lstore X48 hx hby #[.val (.long x0), .second, .val (.int x2), .val (.int (1 : Int32)), .val (.ref b_48), .val (.long x0), .second, .val (.long (x0 * x0)), .second, .val (.long ((x0 * x0) * x0)), .second, .unset, .unset, .unset, .unset, .unset, .unset] at_36 rfl (rfl : 36 + 2 = 38) ?_
    refine g_lload X48 hx hby at_38 rfl (rfl : 38 + 2 = 40) ?_
    refine g_lload X48 hx hby at_40 rfl (rfl : 40 + 2 = 42) ?_
    refine g_lmul X48 hx hby at_42 (rfl : 42 + 1 = 43) ?_
    refine g_lstore X48 hx hby #[.val (.long x0), .second, .val (.int x2), .val (.int (1 : Int32)), .val (.ref b_48), .val (.long x0), .second, .val (.long (x0 * x0)), .second, .val (.long ((x0 * x0) * x0)), .second, .val (.long ((x0 * x0) * (x0 * x0))), .second, .unset, .unset, .unset, .unset] at_43 rfl (rfl : 43 + 2 = 45) ?_
    refine g_lload X48 hx hby at_45 rfl (rfl : 45 + 2 = 47) ?_
    refine g_lload X48 hx hby at_47 rfl (rfl : 47 + 2 = 49) ?_
    refine g_lmul X48 hx hby at_49 (rfl : 49 + 1 = 50) ?_
    refine g_lstore X48 hx hby #[.val (.long x0), .second, .val (.int x2), .val (.int (1 : Int32)), .val (.ref b_48), .val (.long x0), .second, .val (.long (x0 * x0)), .second, .val (.long ((x0 * x0) * x0)), .second, .val (.long ((x0 * x0) * (x0 * x0))), .second, .val (.long (((x0 * x0) * (x0 * x0)) * x0)), .second, .unset, .unset] at_50 rfl (rfl : 50 + 2 = 52) ?_
    refine g_lload X48 hx hby at_52 rfl (rfl : 52 + 2 = 54) ?_
    refine g_lload X48 hx hby at_54 rfl (rfl : 54 + 2 = 56) ?_
    refine g_lmul X48 hx hby at_56 (rfl : 56 + 1 = 57) ?_
    refine g_lstore X48 hx hby #[.val (.long x0), .second, .val (.int x2), .val (.int (1 : Int32)), .val (.ref b_48), .val (.long x0), .second, .val (.long (x0 * x0)), .second, .val (.long ((x0 * x0) * x0)), .second, .val (.long ((x0 * x0) * (x0 * x0))), .second, .val (.long (((x0 * x0) * (x0 * x0)) * x0)), .second, .val (.long (((x0 * x0) * x0) * ((x0 * x0) * x0))), .second] at_57 rfl (rfl : 57 + 2 = 59) ?_
    refine g_aload X48 hx hby at_59 rfl rfl (rfl : 59 + 2 = 61) ?_
    refine g_iconst X48 hx hby (0 : Int32) at_61 (by decide) (rfl : 61 + 1 = 62) ?_
    refine g_lconst X48 hx hby (1 : Int64) at_62 (by decide) (rfl : 62 + 1 = 63) ?_
    obtain ⟨_, _, ⟨T50, L50, k50, n50⟩, -, X50, ⟨Lc50, hQ50, l50, y50, z50⟩, st50⟩ := Jvm.LawKit.callS X48 hx (y := (⟨"com/example/markov_lumper/markovlumper/decimal/ScalingPowersPinLaw", "at", "([JIJ)Z"⟩ : MethodName)) hown (mvT hZ (hw _ (List.mem_of_getElem? (i := 5) rfl))) (mvT hZ (hw _ (List.mem_of_getElem? (i := 6) rfl))) (mvT hZ (hw _ (List.mem_of_getElem? (i := 7) rfl))) (mvT hZ (hw _ (List.mem_of_getElem? (i := 8) rfl))) (by decide) (backOf (W := 0) (rm_atL l Z a0 hw [] b_48 (0 : Int32) (1 : Int64) (1 : Int32) kk_48 [(.long (1 : Int64))] (1 : Int64) T48.heap n0 Z48 q48_1 rfl (by decide) (by decide)) hZ (hw _ (List.mem_of_getElem? (i := 8) rfl)) (hw _ (List.mem_of_getElem? (i := 7) rfl)) (by decide) (by decide)) (g := (mkF m 63 #[.val (.long x0), .second, .val (.int x2), .val (.int (1 : Int32)), .val (.ref b_48), .val (.long x0), .second, .val (.long (x0 * x0)), .second, .val (.long ((x0 * x0) * x0)), .second, .val (.long ((x0 * x0) * (x0 * x0))), .second, .val (.long (((x0 * x0) * (x0 * x0)) * x0)), .second, .val (.long (((x0 * x0) * x0) * ((x0 * x0) * x0))), .second] [(.long (1 : Int64)), (.int (0 : Int32)), (.ref b_48)])) rfl (by rw [hml]; rfl) (argsL := [(.ref b_48), (.int (0 : Int32)), (.long (1 : Int64))]) (rest := []) (lenOf pd1 rfl) rfl (by show 2 * 0 + _ ≤ _; exact Nat.le_of_eq rfl) (hb hby at_63) (fun _ _ => ⟨rfl, rfl, (by decide : 1 + 0 ≤ _), (by decide : 1 + 0 ≤ _)⟩)
    dsimp only [Pt.U, Pt.locs, Pt.cells, Pt.slots] at X50 l50 y50 z50 st50 hQ50
    subst l50 y50 z50
    obtain ⟨rfl, N50q, eq50⟩ := hQ50
    have N50 := Fr.app N48 N50q
    refine own_go st50 ?_
    show own_Got p e below _ T50 (mkF m 66 #[.val (.long x0), .second, .val (.int x2), .val (.int (1 : Int32)), .val (.ref b_48), .val (.long x0), .second, .val (.long (x0 * x0)), .second, .val (.long ((x0 * x0) * x0)), .second, .val (.long ((x0 * x0) * (x0 * x0))), .second, .val (.long (((x0 * x0) * (x0 * x0)) * x0)), .second, .val (.long (((x0 * x0) * x0) * ((x0 * x0) * x0))), .second] [(.int (F_atL (1 : Int64) (1 : Int64)))])
    have c51 : ¬ ((F_atL (1 : Int64) (1 : Int64)) = (0 : Int32)) := own_atne (by simp only [Int64.one_mul, Int64.mul_assoc])
    refine g_ifF X50 hx hby at_66 ((if0 _ _).trans (feq c51).1) (rfl : 66 + 3 = 69) ?_
    refine g_aload X50 hx hby at_69 rfl rfl (rfl : 69 + 2 = 71) ?_
    refine g_iconst X50 hx hby (1 : Int32) at_71 (by decide) (rfl : 71 + 1 = 72) ?_
    refine g_lload X50 hx hby at_72 rfl (rfl : 72 + 2 = 74) ?_
    obtain ⟨_, _, ⟨T52, L52, k52, n52⟩, -, X52, ⟨Lc52, hQ52, l52, y52, z52⟩, st52⟩ := Jvm.LawKit.callS X50 hx (y := (⟨"com/example/markov_lumper/markovlumper/decimal/ScalingPowersPinLaw", "at", "([JIJ)Z"⟩ : MethodName)) hown (mvT hZ (hw _ (List.mem_of_getElem? (i := 5) rfl))) (mvT hZ (hw _ (List.mem_of_getElem? (i := 6) rfl))) (mvT hZ (hw _ (List.mem_of_getElem? (i := 7) rfl))) (mvT hZ (hw _ (List.mem_of_getElem? (i := 8) rfl))) (by decide) (backOf (W := 0) (rm_atG l Z a0 hw [] b_48 (1 : Int32) x0 (1 : Int32) kk_48 [(.long (1 : Int64))] T48.heap n0 Z48 q48_1 (by decide)) hZ (hw _ (List.mem_of_getElem? (i := 8) rfl)) (hw _ (List.mem_of_getElem? (i := 7) rfl)) (by decide) (by decide)) (g := (mkF m 74 #[.val (.long x0), .second, .val (.int x2), .val (.int (1 : Int32)), .val (.ref b_48), .val (.long x0), .second, .val (.long (x0 * x0)), .second, .val (.long ((x0 * x0) * x0)), .second, .val (.long ((x0 * x0) * (x0 * x0))), .second, .val (.long (((x0 * x0) * (x0 * x0)) * x0)), .second, .val (.long (((x0 * x0) * x0) * ((x0 * x0) * x0))), .second] [(.long x0), (.int (1 : Int32)), (.ref b_48)])) rfl (by rw [hml]; rfl) (argsL := [(.ref b_48), (.int (1 : Int32)), (.long x0)]) (rest := []) (lenOf pd1 rfl) rfl (by show 2 * 0 + _ ≤ _; exact Nat.le_of_eq rfl) (hb hby at_74) (fun _ _ => ⟨rfl, eq50, (by decide : 1 + 0 ≤ _), (by decide : 1 + 0 ≤ _)⟩)
    dsimp only [Pt.U, Pt.locs, Pt.cells, Pt.slots] at X52 l52 y52 z52 st52 hQ52
    subst l52 y52 z52
    obtain ⟨rfl, N52q, eq52⟩ := hQ52
    have N52 := Fr.app N50 N52q
    refine own_go st52 ?_
    show own_Got p e below _ T52 (mkF m 77 #[.val (.long x0), .second, .val (.int x2), .val (.int (1 : Int32)), .val (.ref b_48), .val (.long x0), .second, .val (.long (x0 * x0)), .second, .val (.long ((x0 * x0) * x0)), .second, .val (.long ((x0 * x0) * (x0 * x0))), .second, .val (.long (((x0 * x0) * (x0 * x0)) * x0)), .second, .val (.long (((x0 * x0) * x0) * ((x0 * x0) * x0))), .second] [(.int (1 : Int32))])
    refine g_ifF X52 hx hby at_77 ((if0 _ _).trans (feq (by decide : ¬ ((1 : Int32) = (0 : Int32)))).1) (rfl : 77 + 3 = 80) ?_
    refine g_aload X52 hx hby at_80 rfl rfl (rfl : 80 + 2 = 82) ?_
    refine g_iconst X52 hx hby (2 : Int32) at_82 (by decide) (rfl : 82 + 1 = 83) ?_
    refine g_lload X52 hx hby at_83 rfl (rfl : 83 + 2 = 85) ?_
    obtain ⟨_, _, ⟨T53, L53, k53, n53⟩, -, X53, ⟨Lc53, hQ53, l53, y53, z53⟩, st53⟩ := Jvm.LawKit.callS X52 hx (y := (⟨"com/example/markov_lumper/markovlumper/decimal/ScalingPowersPinLaw", "at", "([JIJ)Z"⟩ : MethodName)) hown (mvT hZ (hw _ (List.mem_of_getElem? (i := 5) rfl))) (mvT hZ (hw _ (List.mem_of_getElem? (i := 6) rfl))) (mvT hZ (hw _ (List.mem_of_getElem? (i := 7) rfl))) (mvT hZ (hw _ (List.mem_of_getElem? (i := 8) rfl))) (by decide) (backOf (W := 0) (rm_atG l Z a0 hw [] b_48 (2 : Int32) (x0 * x0) (1 : Int32) kk_48 [(.long (1 : Int64))] T48.heap n0 Z48 q48_1 (by decide)) hZ (hw _ (List.mem_of_getElem? (i := 8) rfl)) (hw _ (List.mem_of_getElem? (i := 7) rfl)) (by decide) (by decide)) (g := (mkF m 85 #[.val (.long x0), .second, .val (.int x2), .val (.int (1 : Int32)), .val (.ref b_48), .val (.long x0), .second, .val (.long (x0 * x0)), .second, .val (.long ((x0 * x0) * x0)), .second, .val (.long ((x0 * x0) * (x0 * x0))), .second, .val (.long (((x0 * x0) * (x0 * x0)) * x0)), .second, .val (.long (((x0 * x0) * x0) * ((x0 * x0) * x0))), .second] [(.long (x0 * x0)), (.int (2 : Int32)), (.ref b_48)])) rfl (by rw [hml]; rfl) (argsL := [(.ref b_48), (.int (2 : Int32)), (.long (x0 * x0))]) (rest := []) (lenOf pd1 rfl) rfl (by show 2 * 0 + _ ≤ _; exact Nat.le_of_eq rfl) (hb hby at_85) (fun _ _ => ⟨rfl, eq52, (by decide : 1 + 0 ≤ _), (by decide : 1 + 0 ≤ _)⟩)
    dsimp only [Pt.U, Pt.locs, Pt.cells, Pt.slots] at X53 l53 y53 z53 st53 hQ53
    subst l53 y53 z53
    obtain ⟨rfl, N53q, eq53⟩ := hQ53
    have N53 := Fr.app N52 N53q
    refine own_go st53 ?_
    show own_Got p e below _ T53 (mkF m 88 #[.val (.long x0), .second, .val (.int x2), .val (.int (1 : Int32)), .val (.ref b_48), .val (.long x0), .second, .val (.long (x0 * x0)), .second, .val (.long ((x0 * x0) * x0)), .second, .val (.long ((x0 * x0) * (x0 * x0))), .second, .val (.long (((x0 * x0) * (x0 * x0)) * x0)), .second, .val (.long (((x0 * x0) * x0) * ((x0 * x0) * x0))), .second] [(.int (1 : Int32))])
    refine g_ifF X53 hx hby at_88 ((if0 _ _).trans (feq (by decide : ¬ ((1 : Int32) = (0 : Int32)))).1) (rfl : 88 + 3 = 91) ?_
    refine g_aload X53 hx hby at_91 rfl rfl (rfl : 91 + 2 = 93) ?_
    refine g_iconst X53 hx hby (3 : Int32) at_93 (by decide) (rfl : 93 + 1 = 94) ?_
    refine g_lload X53 hx hby at_94 rfl (rfl : 94 + 2 = 96) ?_
    obtain ⟨_, _, ⟨T54, L54, k54, n54⟩, -, X54, ⟨Lc54, hQ54, l54, y54, z54⟩, st54⟩ := Jvm.LawKit.callS X53 hx (y := (⟨"com/example/markov_lumper/markovlumper/decimal/ScalingPowersPinLaw", "at", "([JIJ)Z"⟩ : MethodName)) hown (mvT hZ (hw _ (List.mem_of_getElem? (i := 5) rfl))) (mvT hZ (hw _ (List.mem_of_getElem? (i := 6) rfl))) (mvT hZ (hw _ (List.mem_of_getElem? (i := 7) rfl))) (mvT hZ (hw _ (List.mem_of_getElem? (i := 8) rfl))) (by decide) (backOf (W := 0) (rm_atG l Z a0 hw [] b_48 (3 : Int32) ((x0 * x0) * x0) (1 : Int32) kk_48 [(.long (1 : Int64))] T48.heap n0 Z48 q48_1 (by decide)) hZ (hw _ (List.mem_of_getElem? (i := 8) rfl)) (hw _ (List.mem_of_getElem? (i := 7) rfl)) (by decide) (by decide)) (g := (mkF m 96 #[.val (.long x0), .second, .val (.int x2), .val (.int (1 : Int32)), .val (.ref b_48), .val (.long x0), .second, .val (.long (x0 * x0)), .second, .val (.long ((x0 * x0) * x0)), .second, .val (.long ((x0 * x0) * (x0 * x0))), .second, .val (.long (((x0 * x0) * (x0 * x0)) * x0)), .second, .val (.long (((x0 * x0) * x0) * ((x0 * x0) * x0))), .second] [(.long ((x0 * x0) * x0)), (.int (3 : Int32)), (.ref b_48)])) rfl (by rw [hml]; rfl) (argsL := [(.ref b_48), (.int (3 : Int32)), (.long ((x0 * x0) * x0))]) (rest := []) (lenOf pd1 rfl) rfl (by show 2 * 0 + _ ≤ _; exact Nat.le_of_eq rfl) (hb hby at_96) (fun _ _ => ⟨rfl, eq53, (by decide : 1 + 0 ≤ _), (by decide : 1 + 0 ≤ _)⟩)
    dsimp only [Pt.U, Pt.locs, Pt.cells, Pt.slots] at X54 l54 y54 z54 st54 hQ54
    subst l54 y54 z54
    obtain ⟨rfl, N54q, eq54⟩ := hQ54
    have N54 := Fr.app N53 N54q
    refine own_go st54 ?_
    show own_Got p e below _ T54 (mkF m 99 #[.val (.long x0), .second, .val (.int x2), .val (.int (1 : Int32)), .val (.ref b_48), .val (.long x0), .second, .val (.long (x0 * x0)), .second, .val (.long ((x0 * x0) * x0)), .second, .val (.long ((x0 * x0) * (x0 * x0))), .second, .val (.long (((x0 * x0) * (x0 * x0)) * x0)), .second, .val (.long (((x0 * x0) * x0) * ((x0 * x0) * x0))), .second] [(.int (1 : Int32))])
    refine g_ifF X54 hx hby at_99 ((if0 _ _).trans (feq (by decide : ¬ ((1 : Int32) = (0 : Int32)))).1) (rfl : 99 + 3 = 102) ?_
    refine g_aload X54 hx hby at_102 rfl rfl (rfl : 102 + 2 = 104) ?_
    refine g_iconst X54 hx hby (4 : Int32) at_104 (by decide) (rfl : 104 + 1 = 105) ?_
    refine g_lload X54 hx hby at_105 rfl (rfl : 105 + 2 = 107) ?_
    obtain ⟨_, _, ⟨T55, L55, k55, n55⟩, -, X55, ⟨Lc55, hQ55, l55, y55, z55⟩, st55⟩ := Jvm.LawKit.callS X54 hx (y := (⟨"com/example/markov_lumper/markovlumper/decimal/ScalingPowersPinLaw", "at", "([JIJ)Z"⟩ : MethodName)) hown (mvT hZ (hw _ (List.mem_of_getElem? (i := 5) rfl))) (mvT hZ (hw _ (List.mem_of_getElem? (i := 6) rfl))) (mvT hZ (hw _ (List.mem_of_getElem? (i := 7) rfl))) (mvT hZ (hw _ (List.mem_of_getElem? (i := 8) rfl))) (by decide) (backOf (W := 0) (rm_atG l Z a0 hw [] b_48 (4 : Int32) ((x0 * x0) * (x0 * x0)) (1 : Int32) kk_48 [(.long (1 : Int64))] T48.heap n0 Z48 q48_1 (by decide)) hZ (hw _ (List.mem_of_getElem? (i := 8) rfl)) (hw _ (List.mem_of_getElem? (i := 7) rfl)) (by decide) (by decide)) (g := (mkF m 107 #[.val (.long x0), .second, .val (.int x2), .val (.int (1 : Int32)), .val (.ref b_48), .val (.long x0), .second, .val (.long (x0 * x0)), .second, .val (.long ((x0 * x0) * x0)), .second, .val (.long ((x0 * x0) * (x0 * x0))), .second, .val (.long (((x0 * x0) * (x0 * x0)) * x0)), .second, .val (.long (((x0 * x0) * x0) * ((x0 * x0) * x0))), .second] [(.long ((x0 * x0) * (x0 * x0))), (.int (4 : Int32)), (.ref b_48)])) rfl (by rw [hml]; rfl) (argsL := [(.ref b_48), (.int (4 : Int32)), (.long ((x0 * x0) * (x0 * x0)))]) (rest := []) (lenOf pd1 rfl) rfl (by show 2 * 0 + _ ≤ _; exact Nat.le_of_eq rfl) (hb hby at_107) (fun _ _ => ⟨rfl, eq54, (by decide : 1 + 0 ≤ _), (by decide : 1 + 0 ≤ _)⟩)
    dsimp only [Pt.U, Pt.locs, Pt.cells, Pt.slots] at X55 l55 y55 z55 st55 hQ55
    subst l55 y55 z55
    obtain ⟨rfl, N55q, eq55⟩ := hQ55
    have N55 := Fr.app N54 N55q
    refine own_go st55 ?_
    show own_Got p e below _ T55 (mkF m 110 #[.val (.long x0), .second, .val (.int x2), .val (.int (1 : Int32)), .val (.ref b_48), .val (.long x0), .second, .val (.long (x0 * x0)), .second, .val (.long ((x0 * x0) * x0)), .second, .val (.long ((x0 * x0) * (x0 * x0))), .second, .val (.long (((x0 * x0) * (x0 * x0)) * x0)), .second, .val (.long (((x0 * x0) * x0) * ((x0 * x0) * x0))), .second] [(.int (1 : Int32))])
    refine g_ifF X55 hx hby at_110 ((if0 _ _).trans (feq (by decide : ¬ ((1 : Int32) = (0 : Int32)))).1) (rfl : 110 + 3 = 113) ?_
    refine g_aload X55 hx hby at_113 rfl rfl (rfl : 113 + 2 = 115) ?_
    refine g_iconst X55 hx hby (5 : Int32) at_115 (by decide) (rfl : 115 + 1 = 116) ?_
    refine g_lload X55 hx hby at_116 rfl (rfl : 116 + 2 = 118) ?_
    obtain ⟨_, _, ⟨T56, L56, k56, n56⟩, -, X56, ⟨Lc56, hQ56, l56, y56, z56⟩, st56⟩ := Jvm.LawKit.callS X55 hx (y := (⟨"com/example/markov_lumper/markovlumper/decimal/ScalingPowersPinLaw", "at", "([JIJ)Z"⟩ : MethodName)) hown (mvT hZ (hw _ (List.mem_of_getElem? (i := 5) rfl))) (mvT hZ (hw _ (List.mem_of_getElem? (i := 6) rfl))) (mvT hZ (hw _ (List.mem_of_getElem? (i := 7) rfl))) (mvT hZ (hw _ (List.mem_of_getElem? (i := 8) rfl))) (by decide) (backOf (W := 0) (rm_atG l Z a0 hw [] b_48 (5 : Int32) (((x0 * x0) * (x0 * x0)) * x0) (1 : Int32) kk_48 [(.long (1 : Int64))] T48.heap n0 Z48 q48_1 (by decide)) hZ (hw _ (List.mem_of_getElem? (i := 8) rfl)) (hw _ (List.mem_of_getElem? (i := 7) rfl)) (by decide) (by decide)) (g := (mkF m 118 #[.val (.long x0), .second, .val (.int x2), .val (.int (1 : Int32)), .val (.ref b_48), .val (.long x0), .second, .val (.long (x0 * x0)), .second, .val (.long ((x0 * x0) * x0)), .second, .val (.long ((x0 * x0) * (x0 * x0))), .second, .val (.long (((x0 * x0) * (x0 * x0)) * x0)), .second, .val (.long (((x0 * x0) * x0) * ((x0 * x0) * x0))), .second] [(.long (((x0 * x0) * (x0 * x0)) * x0)), (.int (5 : Int32)), (.ref b_48)])) rfl (by rw [hml]; rfl) (argsL := [(.ref b_48), (.int (5 : Int32)), (.long (((x0 * x0) * (x0 * x0)) * x0))]) (rest := []) (lenOf pd1 rfl) rfl (by show 2 * 0 + _ ≤ _; exact Nat.le_of_eq rfl) (hb hby at_118) (fun _ _ => ⟨rfl, eq55, (by decide : 1 + 0 ≤ _), (by decide : 1 + 0 ≤ _)⟩)
    dsimp only [Pt.U, Pt.locs, Pt.cells, Pt.slots] at X56 l56 y56 z56 st56 hQ56
    subst l56 y56 z56
    obtain ⟨rfl, N56q, eq56⟩ := hQ56
    have N56 := Fr.app N55 N56q
    refine own_go st56 ?_
    show own_Got p e below _ T56 (mkF m 121 #[.val (.long x0), .second, .val (.int x2), .val (.int (1 : Int32)), .val (.ref b_48), .val (.long x0), .second, .val (.long (x0 * x0)), .second, .val (.long ((x0 * x0) * x0)), .second, .val (.long ((x0 * x0) * (x0 * x0))), .second, .val (.long (((x0 * x0) * (x0 * x0)) * x0)), .second, .val (.long (((x0 * x0) * x0) * ((x0 * x0) * x0))), .second] [(.int (1 : Int32))])
    refine g_ifF X56 hx hby at_121 ((if0 _ _).trans (feq (by decide : ¬ ((1 : Int32) = (0 : Int32)))).1) (rfl : 121 + 3 = 124) ?_
    refine g_aload X56 hx hby at_124 rfl rfl (rfl : 124 + 2 = 126) ?_
    refine g_bipush X56 hx hby (6 : Int32) at_126 (by decide) (rfl : 126 + 2 = 128) ?_
    refine g_lload X56 hx hby at_128 rfl (rfl : 128 + 2 = 130) ?_
    obtain ⟨_, _, ⟨T57, L57, k57, n57⟩, -, X57, ⟨Lc57, hQ57, l57, y57, z57⟩, st57⟩ := Jvm.LawKit.callS X56 hx (y := (⟨"com/example/markov_lumper/markovlumper/decimal/ScalingPowersPinLaw", "at", "([JIJ)Z"⟩ : MethodName)) hown (mvT hZ (hw _ (List.mem_of_getElem? (i := 5) rfl))) (mvT hZ (hw _ (List.mem_of_getElem? (i := 6) rfl))) (mvT hZ (hw _ (List.mem_of_getElem? (i := 7) rfl))) (mvT hZ (hw _ (List.mem_of_getElem? (i := 8) rfl))) (by decide) (backOf (W := 0) (rm_atG l Z a0 hw [] b_48 (6 : Int32) (((x0 * x0) * x0) * ((x0 * x0) * x0)) (1 : Int32) kk_48 [(.long (1 : Int64))] T48.heap n0 Z48 q48_1 (by decide)) hZ (hw _ (List.mem_of_getElem? (i := 8) rfl)) (hw _ (List.mem_of_getElem? (i := 7) rfl)) (by decide) (by decide)) (g := (mkF m 130 #[.val (.long x0), .second, .val (.int x2), .val (.int (1 : Int32)), .val (.ref b_48), .val (.long x0), .second, .val (.long (x0 * x0)), .second, .val (.long ((x0 * x0) * x0)), .second, .val (.long ((x0 * x0) * (x0 * x0))), .second, .val (.long (((x0 * x0) * (x0 * x0)) * x0)), .second, .val (.long (((x0 * x0) * x0) * ((x0 * x0) * x0))), .second] [(.long (((x0 * x0) * x0) * ((x0 * x0) * x0))), (.int (6 : Int32)), (.ref b_48)])) rfl (by rw [hml]; rfl) (argsL := [(.ref b_48), (.int (6 : Int32)), (.long (((x0 * x0) * x0) * ((x0 * x0) * x0)))]) (rest := []) (lenOf pd1 rfl) rfl (by show 2 * 0 + _ ≤ _; exact Nat.le_of_eq rfl) (hb hby at_130) (fun _ _ => ⟨rfl, eq56, (by decide : 1 + 0 ≤ _), (by decide : 1 + 0 ≤ _)⟩)
    dsimp only [Pt.U, Pt.locs, Pt.cells, Pt.slots] at X57 l57 y57 z57 st57 hQ57
    subst l57 y57 z57
    obtain ⟨rfl, N57q, eq57⟩ := hQ57
    have N57 := Fr.app N56 N57q
    refine own_go st57 ?_
    show own_Got p e below _ T57 (mkF m 133 #[.val (.long x0), .second, .val (.int x2), .val (.int (1 : Int32)), .val (.ref b_48), .val (.long x0), .second, .val (.long (x0 * x0)), .second, .val (.long ((x0 * x0) * x0)), .second, .val (.long ((x0 * x0) * (x0 * x0))), .second, .val (.long (((x0 * x0) * (x0 * x0)) * x0)), .second, .val (.long (((x0 * x0) * x0) * ((x0 * x0) * x0))), .second] [(.int (1 : Int32))])
    refine g_ifF X57 hx hby at_133 ((if0 _ _).trans (feq (by decide : ¬ ((1 : Int32) = (0 : Int32)))).1) (rfl : 133 + 3 = 136) ?_
    refine g_iconst X57 hx hby (1 : Int32) at_136 (by decide) (rfl : 136 + 1 = 137) ?_
    refine g_goto X57 hx hby at_137 (by decide) (pc' := 141) (by decide) ?_
    refine own_retN X57 hx hby hlk (t := .boolean) hrt (by simp) at_141 (by decide) (by decide) ?_
    show Q_law Z x0 x2 h0 n0 _ T57.heap _
    exact ⟨rfl, N57⟩
  · rw [hk38]
    refine g_lloadN X0 hx hby at_5 rfl (rfl : 5 + 1 = 6) ?_
    refine g_iloadN X0 hx hby at_6 rfl (rfl : 6 + 1 = 7) ?_
    obtain ⟨_, _, ⟨T58, L58, k58, n58⟩, -, X58, ⟨Lc58, hQ58, l58, y58, z58⟩, st58⟩ := Jvm.LawKit.callS X0 hx (y := (⟨"com/example/markov_lumper/markovlumper/decimal/Scaling", "powers", "(JI)[J"⟩ : MethodName)) hown (mvT hZ (hw _ (List.mem_of_getElem? (i := 0) rfl))) (mvT hZ (hw _ (List.mem_of_getElem? (i := 1) rfl))) (mvT hZ (hw _ (List.mem_of_getElem? (i := 2) rfl))) (mvT hZ (hw _ (List.mem_of_getElem? (i := 3) rfl))) (by decide) (backOf (W := 0) (rm_pw2 l Z a0 hw [] x0 h0 n0 Z0) hZ (hw _ (List.mem_of_getElem? (i := 3) rfl)) (hw _ (List.mem_of_getElem? (i := 2) rfl)) (by decide) (by decide)) (g := (mkF m 7 #[.val (.long x0), .second, .val (.int x2), .val (.int (2 : Int32)), .unset, .unset, .unset, .unset, .unset, .unset, .unset, .unset, .unset, .unset, .unset, .unset, .unset] [(.int (2 : Int32)), (.long x0)])) rfl (by rw [hml]; rfl) (argsL := [(.long x0), (.int (2 : Int32))]) (rest := []) (lenOf pd0 rfl) rfl (by show 2 * 0 + _ ≤ _; exact Nat.le_of_eq rfl) (hb hby at_7) (fun _ _ => ⟨rfl, e0, (by decide : 0 + 1 ≤ _), (by decide : 0 + 2 ≤ _)⟩)
    dsimp only [Pt.U, Pt.locs, Pt.cells, Pt.slots] at X58 l58 y58 z58 st58 hQ58
    subst l58 y58 z58
    obtain ⟨b_58, kk_58, rfl, N58q, K58, q58_0, q58_1⟩ := hQ58
    have N58 := Fr.app N0 N58q
    have Z58 : n0 ≤ T58.heap.size := Nat.le_trans Z0 K58.1
    have ge59 : n0 ≤ b_58 := Nat.le_trans Z0 q58_0
    refine own_go st58 ?_
    show own_Got p e below _ T58 (mkF m 10 #[.val (.long x0), .second, .val (.int x2), .val (.int (2 : Int32)), .unset, .unset, .unset, .unset, .unset, .unset, .unset, .unset, .unset, .unset, .unset, .unset, .unset] [(.ref b_58)])
    refine g_astore X58 hx hby #[.val (.long x0), .second, .val (.int x2), .val (.int (2 : Int32)), .val (.ref b_58), .unset, .unset, .unset, .unset, .unset, .unset, .unset, .unset, .unset, .unset, .unset, .unset] at_10 rfl rfl (rfl : 10 + 2 = 12) ?_
    refine g_aload X58 hx hby at_12 rfl rfl (rfl : 12 + 2 = 14) ?_
    refine g_alen X58 hx hby hZ rfl q58_1 at_14 (rfl : 14 + 1 = 15) ?_
    refine g_iloadN X58 hx hby at_15 rfl (rfl : 15 + 1 = 16) ?_
    refine g_icT X58 hx hby at_16 (teq (by decide : (2 : Int32) = (2 : Int32))).1 (by decide) (pc' := 21) (by decide) ?_
    refine g_lloadN X58 hx hby at_21 rfl (rfl : 21 + 1 = 22) ?_
    refine g_lstore X58 hx hby #[.val (.long x0), .second, .val (.int x2), .val (.int (2 : Int32)), .val (.ref b_58), .val (.long x0), .second, .unset, .unset, .unset, .unset, .unset, .unset, .unset, .unset, .unset, .unset] at_22 rfl (rfl : 22 + 2 = 24) ?_
    refine g_lload X58 hx hby at_24 rfl (rfl : 24 + 2 = 26) ?_
    refine g_lload X58 hx hby at_26 rfl (rfl : 26 + 2 = 28) ?_
    refine g_lmul X58 hx hby at_28 (rfl : 28 + 1 = 29) ?_
    refine g_lstore X58 hx hby #[.val (.long x0), .second, .val (.int x2), .val (.int (2 : Int32)), .val (.ref b_58), .val (.long x0), .second, .val (.long (x0 * x0)), .second, .unset, .unset, .unset, .unset, .unset, .unset, .unset, .unset] at_29 rfl (rfl : 29 + 2 = 31) ?_
    refine g_lload X58 hx hby at_31 rfl (rfl : 31 + 2 = 33) ?_
    refine g_lload X58 hx hby at_33 rfl (rfl : 33 + 2 = 35) ?_
    refine g_lmul X58 hx hby at_35 (rfl : 35 + 1 = 36) ?_
    refine g_lstore X58 hx hby #[.val (.long x0), .second, .val (.int x2), .val (.int (2 : Int32)), .val (.ref b_58), .val (.long x0), .second, .val (.long (x0 * x0)), .second, .val (.long ((x0 * x0) * x0)), .second, .unset, .unset, .unset, .unset, .unset, .unset] at_36 rfl (rfl : 36 + 2 = 38) ?_
    refine g_lload X58 hx hby at_38 rfl (rfl : 38 + 2 = 40) ?_
    refine g_lload X58 hx hby at_40 rfl (rfl : 40 + 2 = 42) ?_
    refine g_lmul X58 hx hby at_42 (rfl : 42 + 1 = 43) ?_
    refine g_lstore X58 hx hby #[.val (.long x0), .second, .val (.int x2), .val (.int (2 : Int32)), .val (.ref b_58), .val (.long x0), .second, .val (.long (x0 * x0)), .second, .val (.long ((x0 * x0) * x0)), .second, .val (.long ((x0 * x0) * (x0 * x0))), .second, .unset, .unset, .unset, .unset] at_43 rfl (rfl : 43 + 2 = 45) ?_
    refine g_lload X58 hx hby at_45 rfl (rfl : 45 + 2 = 47) ?_
    refine g_lload X58 hx hby at_47 rfl (rfl : 47 + 2 = 49) ?_
    refine g_lmul X58 hx hby at_49 (rfl : 49 + 1 = 50) ?_
    refine g_lstore X58 hx hby #[.val (.long x0), .second, .val (.int x2), .val (.int (2 : Int32)), .val (.ref b_58), .val (.long x0), .second, .val (.long (x0 * x0)), .second, .val (.long ((x0 * x0) * x0)), .second, .val (.long ((x0 * x0) * (x0 * x0))), .second, .val (.long (((x0 * x0) * (x0 * x0)) * x0)), .second, .unset, .unset] at_50 rfl (rfl : 50 + 2 = 52) ?_
    refine g_lload X58 hx hby at_52 rfl (rfl : 52 + 2 = 54) ?_
    refine g_lload X58 hx hby at_54 rfl (rfl : 54 + 2 = 56) ?_
    refine g_lmul X58 hx hby at_56 (rfl : 56 + 1 = 57) ?_
    refine g_lstore X58 hx hby #[.val (.long x0), .second, .val (.int x2), .val (.int (2 : Int32)), .val (.ref b_58), .val (.long x0), .second, .val (.long (x0 * x0)), .second, .val (.long ((x0 * x0) * x0)), .second, .val (.long ((x0 * x0) * (x0 * x0))), .second, .val (.long (((x0 * x0) * (x0 * x0)) * x0)), .second, .val (.long (((x0 * x0) * x0) * ((x0 * x0) * x0))), .second] at_57 rfl (rfl : 57 + 2 = 59) ?_
    refine g_aload X58 hx hby at_59 rfl rfl (rfl : 59 + 2 = 61) ?_
    refine g_iconst X58 hx hby (0 : Int32) at_61 (by decide) (rfl : 61 + 1 = 62) ?_
    refine g_lconst X58 hx hby (1 : Int64) at_62 (by decide) (rfl : 62 + 1 = 63) ?_
    obtain ⟨_, _, ⟨T60, L60, k60, n60⟩, -, X60, ⟨Lc60, hQ60, l60, y60, z60⟩, st60⟩ := Jvm.LawKit.callS X58 hx (y := (⟨"com/example/markov_lumper/markovlumper/decimal/ScalingPowersPinLaw", "at", "([JIJ)Z"⟩ : MethodName)) hown (mvT hZ (hw _ (List.mem_of_getElem? (i := 5) rfl))) (mvT hZ (hw _ (List.mem_of_getElem? (i := 6) rfl))) (mvT hZ (hw _ (List.mem_of_getElem? (i := 7) rfl))) (mvT hZ (hw _ (List.mem_of_getElem? (i := 8) rfl))) (by decide) (backOf (W := 0) (rm_atL l Z a0 hw [] b_58 (0 : Int32) (1 : Int64) (2 : Int32) kk_58 [(.long (1 : Int64)), (.long ((1 : Int64) * x0))] (1 : Int64) T58.heap n0 Z58 q58_1 rfl (by decide) (by decide)) hZ (hw _ (List.mem_of_getElem? (i := 8) rfl)) (hw _ (List.mem_of_getElem? (i := 7) rfl)) (by decide) (by decide)) (g := (mkF m 63 #[.val (.long x0), .second, .val (.int x2), .val (.int (2 : Int32)), .val (.ref b_58), .val (.long x0), .second, .val (.long (x0 * x0)), .second, .val (.long ((x0 * x0) * x0)), .second, .val (.long ((x0 * x0) * (x0 * x0))), .second, .val (.long (((x0 * x0) * (x0 * x0)) * x0)), .second, .val (.long (((x0 * x0) * x0) * ((x0 * x0) * x0))), .second] [(.long (1 : Int64)), (.int (0 : Int32)), (.ref b_58)])) rfl (by rw [hml]; rfl) (argsL := [(.ref b_58), (.int (0 : Int32)), (.long (1 : Int64))]) (rest := []) (lenOf pd1 rfl) rfl (by show 2 * 0 + _ ≤ _; exact Nat.le_of_eq rfl) (hb hby at_63) (fun _ _ => ⟨rfl, rfl, (by decide : 1 + 0 ≤ _), (by decide : 2 + 0 ≤ _)⟩)
    dsimp only [Pt.U, Pt.locs, Pt.cells, Pt.slots] at X60 l60 y60 z60 st60 hQ60
    subst l60 y60 z60
    obtain ⟨rfl, N60q, eq60⟩ := hQ60
    have N60 := Fr.app N58 N60q
    refine own_go st60 ?_
    show own_Got p e below _ T60 (mkF m 66 #[.val (.long x0), .second, .val (.int x2), .val (.int (2 : Int32)), .val (.ref b_58), .val (.long x0), .second, .val (.long (x0 * x0)), .second, .val (.long ((x0 * x0) * x0)), .second, .val (.long ((x0 * x0) * (x0 * x0))), .second, .val (.long (((x0 * x0) * (x0 * x0)) * x0)), .second, .val (.long (((x0 * x0) * x0) * ((x0 * x0) * x0))), .second] [(.int (F_atL (1 : Int64) (1 : Int64)))])
    have c61 : ¬ ((F_atL (1 : Int64) (1 : Int64)) = (0 : Int32)) := own_atne (by simp only [Int64.one_mul, Int64.mul_assoc])
    refine g_ifF X60 hx hby at_66 ((if0 _ _).trans (feq c61).1) (rfl : 66 + 3 = 69) ?_
    refine g_aload X60 hx hby at_69 rfl rfl (rfl : 69 + 2 = 71) ?_
    refine g_iconst X60 hx hby (1 : Int32) at_71 (by decide) (rfl : 71 + 1 = 72) ?_
    refine g_lload X60 hx hby at_72 rfl (rfl : 72 + 2 = 74) ?_
    obtain ⟨_, _, ⟨T62, L62, k62, n62⟩, -, X62, ⟨Lc62, hQ62, l62, y62, z62⟩, st62⟩ := Jvm.LawKit.callS X60 hx (y := (⟨"com/example/markov_lumper/markovlumper/decimal/ScalingPowersPinLaw", "at", "([JIJ)Z"⟩ : MethodName)) hown (mvT hZ (hw _ (List.mem_of_getElem? (i := 5) rfl))) (mvT hZ (hw _ (List.mem_of_getElem? (i := 6) rfl))) (mvT hZ (hw _ (List.mem_of_getElem? (i := 7) rfl))) (mvT hZ (hw _ (List.mem_of_getElem? (i := 8) rfl))) (by decide) (backOf (W := 0) (rm_atL l Z a0 hw [] b_58 (1 : Int32) x0 (2 : Int32) kk_58 [(.long (1 : Int64)), (.long ((1 : Int64) * x0))] ((1 : Int64) * x0) T58.heap n0 Z58 q58_1 rfl (by decide) (by decide)) hZ (hw _ (List.mem_of_getElem? (i := 8) rfl)) (hw _ (List.mem_of_getElem? (i := 7) rfl)) (by decide) (by decide)) (g := (mkF m 74 #[.val (.long x0), .second, .val (.int x2), .val (.int (2 : Int32)), .val (.ref b_58), .val (.long x0), .second, .val (.long (x0 * x0)), .second, .val (.long ((x0 * x0) * x0)), .second, .val (.long ((x0 * x0) * (x0 * x0))), .second, .val (.long (((x0 * x0) * (x0 * x0)) * x0)), .second, .val (.long (((x0 * x0) * x0) * ((x0 * x0) * x0))), .second] [(.long x0), (.int (1 : Int32)), (.ref b_58)])) rfl (by rw [hml]; rfl) (argsL := [(.ref b_58), (.int (1 : Int32)), (.long x0)]) (rest := []) (lenOf pd1 rfl) rfl (by show 2 * 0 + _ ≤ _; exact Nat.le_of_eq rfl) (hb hby at_74) (fun _ _ => ⟨rfl, eq60, (by decide : 1 + 0 ≤ _), (by decide : 2 + 0 ≤ _)⟩)
    dsimp only [Pt.U, Pt.locs, Pt.cells, Pt.slots] at X62 l62 y62 z62 st62 hQ62
    subst l62 y62 z62
    obtain ⟨rfl, N62q, eq62⟩ := hQ62
    have N62 := Fr.app N60 N62q
    refine own_go st62 ?_
    show own_Got p e below _ T62 (mkF m 77 #[.val (.long x0), .second, .val (.int x2), .val (.int (2 : Int32)), .val (.ref b_58), .val (.long x0), .second, .val (.long (x0 * x0)), .second, .val (.long ((x0 * x0) * x0)), .second, .val (.long ((x0 * x0) * (x0 * x0))), .second, .val (.long (((x0 * x0) * (x0 * x0)) * x0)), .second, .val (.long (((x0 * x0) * x0) * ((x0 * x0) * x0))), .second] [(.int (F_atL ((1 : Int64) * x0) x0))])
    have c63 : ¬ ((F_atL ((1 : Int64) * x0) x0) = (0 : Int32)) := own_atne (by simp only [Int64.one_mul, Int64.mul_assoc])
    refine g_ifF X62 hx hby at_77 ((if0 _ _).trans (feq c63).1) (rfl : 77 + 3 = 80) ?_
    refine g_aload X62 hx hby at_80 rfl rfl (rfl : 80 + 2 = 82) ?_
    refine g_iconst X62 hx hby (2 : Int32) at_82 (by decide) (rfl : 82 + 1 = 83) ?_
    refine g_lload X62 hx hby at_83 rfl (rfl : 83 + 2 = 85) ?_
    obtain ⟨_, _, ⟨T64, L64, k64, n64⟩, -, X64, ⟨Lc64, hQ64, l64, y64, z64⟩, st64⟩ := Jvm.LawKit.callS X62 hx (y := (⟨"com/example/markov_lumper/markovlumper/decimal/ScalingPowersPinLaw", "at", "([JIJ)Z"⟩ : MethodName)) hown (mvT hZ (hw _ (List.mem_of_getElem? (i := 5) rfl))) (mvT hZ (hw _ (List.mem_of_getElem? (i := 6) rfl))) (mvT hZ (hw _ (List.mem_of_getElem? (i := 7) rfl))) (mvT hZ (hw _ (List.mem_of_getElem? (i := 8) rfl))) (by decide) (backOf (W := 0) (rm_atG l Z a0 hw [] b_58 (2 : Int32) (x0 * x0) (2 : Int32) kk_58 [(.long (1 : Int64)), (.long ((1 : Int64) * x0))] T58.heap n0 Z58 q58_1 (by decide)) hZ (hw _ (List.mem_of_getElem? (i := 8) rfl)) (hw _ (List.mem_of_getElem? (i := 7) rfl)) (by decide) (by decide)) (g := (mkF m 85 #[.val (.long x0), .second, .val (.int x2), .val (.int (2 : Int32)), .val (.ref b_58), .val (.long x0), .second, .val (.long (x0 * x0)), .second, .val (.long ((x0 * x0) * x0)), .second, .val (.long ((x0 * x0) * (x0 * x0))), .second, .val (.long (((x0 * x0) * (x0 * x0)) * x0)), .second, .val (.long (((x0 * x0) * x0) * ((x0 * x0) * x0))), .second] [(.long (x0 * x0)), (.int (2 : Int32)), (.ref b_58)])) rfl (by rw [hml]; rfl) (argsL := [(.ref b_58), (.int (2 : Int32)), (.long (x0 * x0))]) (rest := []) (lenOf pd1 rfl) rfl (by show 2 * 0 + _ ≤ _; exact Nat.le_of_eq rfl) (hb hby at_85) (fun _ _ => ⟨rfl, eq62, (by decide : 1 + 0 ≤ _), (by decide : 2 + 0 ≤ _)⟩)
    dsimp only [Pt.U, Pt.locs, Pt.cells, Pt.slots] at X64 l64 y64 z64 st64 hQ64
    subst l64 y64 z64
    obtain ⟨rfl, N64q, eq64⟩ := hQ64
    have N64 := Fr.app N62 N64q
    refine own_go st64 ?_
    show own_Got p e below _ T64 (mkF m 88 #[.val (.long x0), .second, .val (.int x2), .val (.int (2 : Int32)), .val (.ref b_58), .val (.long x0), .second, .val (.long (x0 * x0)), .second, .val (.long ((x0 * x0) * x0)), .second, .val (.long ((x0 * x0) * (x0 * x0))), .second, .val (.long (((x0 * x0) * (x0 * x0)) * x0)), .second, .val (.long (((x0 * x0) * x0) * ((x0 * x0) * x0))), .second] [(.int (1 : Int32))])
    refine g_ifF X64 hx hby at_88 ((if0 _ _).trans (feq (by decide : ¬ ((1 : Int32) = (0 : Int32)))).1) (rfl : 88 + 3 = 91) ?_
    refine g_aload X64 hx hby at_91 rfl rfl (rfl : 91 + 2 = 93) ?_
    refine g_iconst X64 hx hby (3 : Int32) at_93 (by decide) (rfl : 93 + 1 = 94) ?_
    refine g_lload X64 hx hby at_94 rfl (rfl : 94 + 2 = 96) ?_
    obtain ⟨_, _, ⟨T65, L65, k65, n65⟩, -, X65, ⟨Lc65, hQ65, l65, y65, z65⟩, st65⟩ := Jvm.LawKit.callS X64 hx (y := (⟨"com/example/markov_lumper/markovlumper/decimal/ScalingPowersPinLaw", "at", "([JIJ)Z"⟩ : MethodName)) hown (mvT hZ (hw _ (List.mem_of_getElem? (i := 5) rfl))) (mvT hZ (hw _ (List.mem_of_getElem? (i := 6) rfl))) (mvT hZ (hw _ (List.mem_of_getElem? (i := 7) rfl))) (mvT hZ (hw _ (List.mem_of_getElem? (i := 8) rfl))) (by decide) (backOf (W := 0) (rm_atG l Z a0 hw [] b_58 (3 : Int32) ((x0 * x0) * x0) (2 : Int32) kk_58 [(.long (1 : Int64)), (.long ((1 : Int64) * x0))] T58.heap n0 Z58 q58_1 (by decide)) hZ (hw _ (List.mem_of_getElem? (i := 8) rfl)) (hw _ (List.mem_of_getElem? (i := 7) rfl)) (by decide) (by decide)) (g := (mkF m 96 #[.val (.long x0), .second, .val (.int x2), .val (.int (2 : Int32)), .val (.ref b_58), .val (.long x0), .second, .val (.long (x0 * x0)), .second, .val (.long ((x0 * x0) * x0)), .second, .val (.long ((x0 * x0) * (x0 * x0))), .second, .val (.long (((x0 * x0) * (x0 * x0)) * x0)), .second, .val (.long (((x0 * x0) * x0) * ((x0 * x0) * x0))), .second] [(.long ((x0 * x0) * x0)), (.int (3 : Int32)), (.ref b_58)])) rfl (by rw [hml]; rfl) (argsL := [(.ref b_58), (.int (3 : Int32)), (.long ((x0 * x0) * x0))]) (rest := []) (lenOf pd1 rfl) rfl (by show 2 * 0 + _ ≤ _; exact Nat.le_of_eq rfl) (hb hby at_96) (fun _ _ => ⟨rfl, eq64, (by decide : 1 + 0 ≤ _), (by decide : 2 + 0 ≤ _)⟩)
    dsimp only [Pt.U, Pt.locs, Pt.cells, Pt.slots] at X65 l65 y65 z65 st65 hQ65
    subst l65 y65 z65
    obtain ⟨rfl, N65q, eq65⟩ := hQ65
    have N65 := Fr.app N64 N65q
    refine own_go st65 ?_
    show own_Got p e below _ T65 (mkF m 99 #[.val (.long x0), .second, .val (.int x2), .val (.int (2 : Int32)), .val (.ref b_58), .val (.long x0), .second, .val (.long (x0 * x0)), .second, .val (.long ((x0 * x0) * x0)), .second, .val (.long ((x0 * x0) * (x0 * x0))), .second, .val (.long (((x0 * x0) * (x0 * x0)) * x0)), .second, .val (.long (((x0 * x0) * x0) * ((x0 * x0) * x0))), .second] [(.int (1 : Int32))])
    refine g_ifF X65 hx hby at_99 ((if0 _ _).trans (feq (by decide : ¬ ((1 : Int32) = (0 : Int32)))).1) (rfl : 99 + 3 = 102) ?_
    refine g_aload X65 hx hby at_102 rfl rfl (rfl : 102 + 2 = 104) ?_
    refine g_iconst X65 hx hby (4 : Int32) at_104 (by decide) (rfl : 104 + 1 = 105) ?_
    refine g_lload X65 hx hby at_105 rfl (rfl : 105 + 2 = 107) ?_
    obtain ⟨_, _, ⟨T66, L66, k66, n66⟩, -, X66, ⟨Lc66, hQ66, l66, y66, z66⟩, st66⟩ := Jvm.LawKit.callS X65 hx (y := (⟨"com/example/markov_lumper/markovlumper/decimal/ScalingPowersPinLaw", "at", "([JIJ)Z"⟩ : MethodName)) hown (mvT hZ (hw _ (List.mem_of_getElem? (i := 5) rfl))) (mvT hZ (hw _ (List.mem_of_getElem? (i := 6) rfl))) (mvT hZ (hw _ (List.mem_of_getElem? (i := 7) rfl))) (mvT hZ (hw _ (List.mem_of_getElem? (i := 8) rfl))) (by decide) (backOf (W := 0) (rm_atG l Z a0 hw [] b_58 (4 : Int32) ((x0 * x0) * (x0 * x0)) (2 : Int32) kk_58 [(.long (1 : Int64)), (.long ((1 : Int64) * x0))] T58.heap n0 Z58 q58_1 (by decide)) hZ (hw _ (List.mem_of_getElem? (i := 8) rfl)) (hw _ (List.mem_of_getElem? (i := 7) rfl)) (by decide) (by decide)) (g := (mkF m 107 #[.val (.long x0), .second, .val (.int x2), .val (.int (2 : Int32)), .val (.ref b_58), .val (.long x0), .second, .val (.long (x0 * x0)), .second, .val (.long ((x0 * x0) * x0)), .second, .val (.long ((x0 * x0) * (x0 * x0))), .second, .val (.long (((x0 * x0) * (x0 * x0)) * x0)), .second, .val (.long (((x0 * x0) * x0) * ((x0 * x0) * x0))), .second] [(.long ((x0 * x0) * (x0 * x0))), (.int (4 : Int32)), (.ref b_58)])) rfl (by rw [hml]; rfl) (argsL := [(.ref b_58), (.int (4 : Int32)), (.long ((x0 * x0) * (x0 * x0)))]) (rest := []) (lenOf pd1 rfl) rfl (by show 2 * 0 + _ ≤ _; exact Nat.le_of_eq rfl) (hb hby at_107) (fun _ _ => ⟨rfl, eq65, (by decide : 1 + 0 ≤ _), (by decide : 2 + 0 ≤ _)⟩)
    dsimp only [Pt.U, Pt.locs, Pt.cells, Pt.slots] at X66 l66 y66 z66 st66 hQ66
    subst l66 y66 z66
    obtain ⟨rfl, N66q, eq66⟩ := hQ66
    have N66 := Fr.app N65 N66q
    refine own_go st66 ?_
    show own_Got p e below _ T66 (mkF m 110 #[.val (.long x0), .second, .val (.int x2), .val (.int (2 : Int32)), .val (.ref b_58), .val (.long x0), .second, .val (.long (x0 * x0)), .second, .val (.long ((x0 * x0) * x0)), .second, .val (.long ((x0 * x0) * (x0 * x0))), .second, .val (.long (((x0 * x0) * (x0 * x0)) * x0)), .second, .val (.long (((x0 * x0) * x0) * ((x0 * x0) * x0))), .second] [(.int (1 : Int32))])
    refine g_ifF X66 hx hby at_110 ((if0 _ _).trans (feq (by decide : ¬ ((1 : Int32) = (0 : Int32)))).1) (rfl : 110 + 3 = 113) ?_
    refine g_aload X66 hx hby at_113 rfl rfl (rfl : 113 + 2 = 115) ?_
    refine g_iconst X66 hx hby (5 : Int32) at_115 (by decide) (rfl : 115 + 1 = 116) ?_
    refine g_lload X66 hx hby at_116 rfl (rfl : 116 + 2 = 118) ?_
    obtain ⟨_, _, ⟨T67, L67, k67, n67⟩, -, X67, ⟨Lc67, hQ67, l67, y67, z67⟩, st67⟩ := Jvm.LawKit.callS X66 hx (y := (⟨"com/example/markov_lumper/markovlumper/decimal/ScalingPowersPinLaw", "at", "([JIJ)Z"⟩ : MethodName)) hown (mvT hZ (hw _ (List.mem_of_getElem? (i := 5) rfl))) (mvT hZ (hw _ (List.mem_of_getElem? (i := 6) rfl))) (mvT hZ (hw _ (List.mem_of_getElem? (i := 7) rfl))) (mvT hZ (hw _ (List.mem_of_getElem? (i := 8) rfl))) (by decide) (backOf (W := 0) (rm_atG l Z a0 hw [] b_58 (5 : Int32) (((x0 * x0) * (x0 * x0)) * x0) (2 : Int32) kk_58 [(.long (1 : Int64)), (.long ((1 : Int64) * x0))] T58.heap n0 Z58 q58_1 (by decide)) hZ (hw _ (List.mem_of_getElem? (i := 8) rfl)) (hw _ (List.mem_of_getElem? (i := 7) rfl)) (by decide) (by decide)) (g := (mkF m 118 #[.val (.long x0), .second, .val (.int x2), .val (.int (2 : Int32)), .val (.ref b_58), .val (.long x0), .second, .val (.long (x0 * x0)), .second, .val (.long ((x0 * x0) * x0)), .second, .val (.long ((x0 * x0) * (x0 * x0))), .second, .val (.long (((x0 * x0) * (x0 * x0)) * x0)), .second, .val (.long (((x0 * x0) * x0) * ((x0 * x0) * x0))), .second] [(.long (((x0 * x0) * (x0 * x0)) * x0)), (.int (5 : Int32)), (.ref b_58)])) rfl (by rw [hml]; rfl) (argsL := [(.ref b_58), (.int (5 : Int32)), (.long (((x0 * x0) * (x0 * x0)) * x0))]) (rest := []) (lenOf pd1 rfl) rfl (by show 2 * 0 + _ ≤ _; exact Nat.le_of_eq rfl) (hb hby at_118) (fun _ _ => ⟨rfl, eq66, (by decide : 1 + 0 ≤ _), (by decide : 2 + 0 ≤ _)⟩)
    dsimp only [Pt.U, Pt.locs, Pt.cells, Pt.slots] at X67 l67 y67 z67 st67 hQ67
    subst l67 y67 z67
    obtain ⟨rfl, N67q, eq67⟩ := hQ67
    have N67 := Fr.app N66 N67q
    refine own_go st67 ?_
    show own_Got p e below _ T67 (mkF m 121 #[.val (.long x0), .second, .val (.int x2), .val (.int (2 : Int32)), .val (.ref b_58), .val (.long x0), .second, .val (.long (x0 * x0)), .second, .val (.long ((x0 * x0) * x0)), .second, .val (.long ((x0 * x0) * (x0 * x0))), .second, .val (.long (((x0 * x0) * (x0 * x0)) * x0)), .second, .val (.long (((x0 * x0) * x0) * ((x0 * x0) * x0))), .second] [(.int (1 : Int32))])
    refine g_ifF X67 hx hby at_121 ((if0 _ _).trans (feq (by decide : ¬ ((1 : Int32) = (0 : Int32)))).1) (rfl : 121 + 3 = 124) ?_
    refine g_aload X67 hx hby at_124 rfl rfl (rfl : 124 + 2 = 126) ?_
    refine g_bipush X67 hx hby (6 : Int32) at_126 (by decide) (rfl : 126 + 2 = 128) ?_
    refine g_lload X67 hx hby at_128 rfl (rfl : 128 + 2 = 130) ?_
    obtain ⟨_, _, ⟨T68, L68, k68, n68⟩, -, X68, ⟨Lc68, hQ68, l68, y68, z68⟩, st68⟩ := Jvm.LawKit.callS X67 hx (y := (⟨"com/example/markov_lumper/markovlumper/decimal/ScalingPowersPinLaw", "at", "([JIJ)Z"⟩ : MethodName)) hown (mvT hZ (hw _ (List.mem_of_getElem? (i := 5) rfl))) (mvT hZ (hw _ (List.mem_of_getElem? (i := 6) rfl))) (mvT hZ (hw _ (List.mem_of_getElem? (i := 7) rfl))) (mvT hZ (hw _ (List.mem_of_getElem? (i := 8) rfl))) (by decide) (backOf (W := 0) (rm_atG l Z a0 hw [] b_58 (6 : Int32) (((x0 * x0) * x0) * ((x0 * x0) * x0)) (2 : Int32) kk_58 [(.long (1 : Int64)), (.long ((1 : Int64) * x0))] T58.heap n0 Z58 q58_1 (by decide)) hZ (hw _ (List.mem_of_getElem? (i := 8) rfl)) (hw _ (List.mem_of_getElem? (i := 7) rfl)) (by decide) (by decide)) (g := (mkF m 130 #[.val (.long x0), .second, .val (.int x2), .val (.int (2 : Int32)), .val (.ref b_58), .val (.long x0), .second, .val (.long (x0 * x0)), .second, .val (.long ((x0 * x0) * x0)), .second, .val (.long ((x0 * x0) * (x0 * x0))), .second, .val (.long (((x0 * x0) * (x0 * x0)) * x0)), .second, .val (.long (((x0 * x0) * x0) * ((x0 * x0) * x0))), .second] [(.long (((x0 * x0) * x0) * ((x0 * x0) * x0))), (.int (6 : Int32)), (.ref b_58)])) rfl (by rw [hml]; rfl) (argsL := [(.ref b_58), (.int (6 : Int32)), (.long (((x0 * x0) * x0) * ((x0 * x0) * x0)))]) (rest := []) (lenOf pd1 rfl) rfl (by show 2 * 0 + _ ≤ _; exact Nat.le_of_eq rfl) (hb hby at_130) (fun _ _ => ⟨rfl, eq67, (by decide : 1 + 0 ≤ _), (by decide : 2 + 0 ≤ _)⟩)
    dsimp only [Pt.U, Pt.locs, Pt.cells, Pt.slots] at X68 l68 y68 z68 st68 hQ68
    subst l68 y68 z68
    obtain ⟨rfl, N68q, eq68⟩ := hQ68
    have N68 := Fr.app N67 N68q
    refine own_go st68 ?_
    show own_Got p e below _ T68 (mkF m 133 #[.val (.long x0), .second, .val (.int x2), .val (.int (2 : Int32)), .val (.ref b_58), .val (.long x0), .second, .val (.long (x0 * x0)), .second, .val (.long ((x0 * x0) * x0)), .second, .val (.long ((x0 * x0) * (x0 * x0))), .second, .val (.long (((x0 * x0) * (x0 * x0)) * x0)), .second, .val (.long (((x0 * x0) * x0) * ((x0 * x0) * x0))), .second] [(.int (1 : Int32))])
    refine g_ifF X68 hx hby at_133 ((if0 _ _).trans (feq (by decide : ¬ ((1 : Int32) = (0 : Int32)))).1) (rfl : 133 + 3 = 136) ?_
    refine g_iconst X68 hx hby (1 : Int32) at_136 (by decide) (rfl : 136 + 1 = 137) ?_
    refine g_goto X68 hx hby at_137 (by decide) (pc' := 141) (by decide) ?_
    refine own_retN X68 hx hby hlk (t := .boolean) hrt (by simp) at_141 (by decide) (by decide) ?_
    show Q_law Z x0 x2 h0 n0 _ T68.heap _
    exact ⟨rfl, N68⟩
  · rw [hk38]
    refine g_lloadN X0 hx hby at_5 rfl (rfl : 5 + 1 = 6) ?_
    refine g_iloadN X0 hx hby at_6 rfl (rfl : 6 + 1 = 7) ?_
    obtain ⟨_, _, ⟨T69, L69, k69, n69⟩, -, X69, ⟨Lc69, hQ69, l69, y69, z69⟩, st69⟩ := Jvm.LawKit.callS X0 hx (y := (⟨"com/example/markov_lumper/markovlumper/decimal/Scaling", "powers", "(JI)[J"⟩ : MethodName)) hown (mvT hZ (hw _ (List.mem_of_getElem? (i := 0) rfl))) (mvT hZ (hw _ (List.mem_of_getElem? (i := 1) rfl))) (mvT hZ (hw _ (List.mem_of_getElem? (i := 2) rfl))) (mvT hZ (hw _ (List.mem_of_getElem? (i := 3) rfl))) (by decide) (backOf (W := 0) (rm_pw3 l Z a0 hw [] x0 h0 n0 Z0) hZ (hw _ (List.mem_of_getElem? (i := 3) rfl)) (hw _ (List.mem_of_getElem? (i := 2) rfl)) (by decide) (by decide)) (g := (mkF m 7 #[.val (.long x0), .second, .val (.int x2), .val (.int (3 : Int32)), .unset, .unset, .unset, .unset, .unset, .unset, .unset, .unset, .unset, .unset, .unset, .unset, .unset] [(.int (3 : Int32)), (.long x0)])) rfl (by rw [hml]; rfl) (argsL := [(.long x0), (.int (3 : Int32))]) (rest := []) (lenOf pd0 rfl) rfl (by show 2 * 0 + _ ≤ _; exact Nat.le_of_eq rfl) (hb hby at_7) (fun _ _ => ⟨rfl, e0, (by decide : 0 + 1 ≤ _), (by decide : 0 + 3 ≤ _)⟩)
    dsimp only [Pt.U, Pt.locs, Pt.cells, Pt.slots] at X69 l69 y69 z69 st69 hQ69
    subst l69 y69 z69
    obtain ⟨b_69, kk_69, rfl, N69q, K69, q69_0, q69_1⟩ := hQ69
    have N69 := Fr.app N0 N69q
    have Z69 : n0 ≤ T69.heap.size := Nat.le_trans Z0 K69.1
    have ge70 : n0 ≤ b_69 := Nat.le_trans Z0 q69_0
    refine own_go st69 ?_
    show own_Got p e below _ T69 (mkF m 10 #[.val (.long x0), .second, .val (.int x2), .val (.int (3 : Int32)), .unset, .unset, .unset, .unset, .unset, .unset, .unset, .unset, .unset, .unset, .unset, .unset, .unset] [(.ref b_69)])
    refine g_astore X69 hx hby #[.val (.long x0), .second, .val (.int x2), .val (.int (3 : Int32)), .val (.ref b_69), .unset, .unset, .unset, .unset, .unset, .unset, .unset, .unset, .unset, .unset, .unset, .unset] at_10 rfl rfl (rfl : 10 + 2 = 12) ?_
    refine g_aload X69 hx hby at_12 rfl rfl (rfl : 12 + 2 = 14) ?_
    refine g_alen X69 hx hby hZ rfl q69_1 at_14 (rfl : 14 + 1 = 15) ?_
    refine g_iloadN X69 hx hby at_15 rfl (rfl : 15 + 1 = 16) ?_
    refine g_icT X69 hx hby at_16 (teq (by decide : (3 : Int32) = (3 : Int32))).1 (by decide) (pc' := 21) (by decide) ?_
    refine g_lloadN X69 hx hby at_21 rfl (rfl : 21 + 1 = 22) ?_
    refine g_lstore X69 hx hby #[.val (.long x0), .second, .val (.int x2), .val (.int (3 : Int32)), .val (.ref b_69), .val (.long x0), .second, .unset, .unset, .unset, .unset, .unset, .unset, .unset, .unset, .unset, .unset] at_22 rfl (rfl : 22 + 2 = 24) ?_
    refine g_lload X69 hx hby at_24 rfl (rfl : 24 + 2 = 26) ?_
    refine g_lload X69 hx hby at_26 rfl (rfl : 26 + 2 = 28) ?_
    refine g_lmul X69 hx hby at_28 (rfl : 28 + 1 = 29) ?_
    refine g_lstore X69 hx hby #[.val (.long x0), .second, .val (.int x2), .val (.int (3 : Int32)), .val (.ref b_69), .val (.long x0), .second, .val (.long (x0 * x0)), .second, .unset, .unset, .unset, .unset, .unset, .unset, .unset, .unset] at_29 rfl (rfl : 29 + 2 = 31) ?_
    refine g_lload X69 hx hby at_31 rfl (rfl : 31 + 2 = 33) ?_
    refine g_lload X69 hx hby at_33 rfl (rfl : 33 + 2 = 35) ?_
    refine g_lmul X69 hx hby at_35 (rfl : 35 + 1 = 36) ?_
    refine g_lstore X69 hx hby #[.val (.long x0), .second, .val (.int x2), .val (.int (3 : Int32)), .val (.ref b_69), .val (.long x0), .second, .val (.long (x0 * x0)), .second, .val (.long ((x0 * x0) * x0)), .second, .unset, .unset, .unset, .unset, .unset, .unset] at_36 rfl (rfl : 36 + 2 = 38) ?_
    refine g_lload X69 hx hby at_38 rfl (rfl : 38 + 2 = 40) ?_
    refine g_lload X69 hx hby at_40 rfl (rfl : 40 + 2 = 42) ?_
    refine g_lmul X69 hx hby at_42 (rfl : 42 + 1 = 43) ?_
    refine g_lstore X69 hx hby #[.val (.long x0), .second, .val (.int x2), .val (.int (3 : Int32)), .val (.ref b_69), .val (.long x0), .second, .val (.long (x0 * x0)), .second, .val (.long ((x0 * x0) * x0)), .second, .val (.long ((x0 * x0) * (x0 * x0))), .second, .unset, .unset, .unset, .unset] at_43 rfl (rfl : 43 + 2 = 45) ?_
    refine g_lload X69 hx hby at_45 rfl (rfl : 45 + 2 = 47) ?_
    refine g_lload X69 hx hby at_47 rfl (rfl : 47 + 2 = 49) ?_
    refine g_lmul X69 hx hby at_49 (rfl : 49 + 1 = 50) ?_
    refine g_lstore X69 hx hby #[.val (.long x0), .second, .val (.int x2), .val (.int (3 : Int32)), .val (.ref b_69), .val (.long x0), .second, .val (.long (x0 * x0)), .second, .val (.long ((x0 * x0) * x0)), .second, .val (.long ((x0 * x0) * (x0 * x0))), .second, .val (.long (((x0 * x0) * (x0 * x0)) * x0)), .second, .unset, .unset] at_50 rfl (rfl : 50 + 2 = 52) ?_
    refine g_lload X69 hx hby at_52 rfl (rfl : 52 + 2 = 54) ?_
    refine g_lload X69 hx hby at_54 rfl (rfl : 54 + 2 = 56) ?_
    refine g_lmul X69 hx hby at_56 (rfl : 56 + 1 = 57) ?_
    refine g_lstore X69 hx hby #[.val (.long x0), .second, .val (.int x2), .val (.int (3 : Int32)), .val (.ref b_69), .val (.long x0), .second, .val (.long (x0 * x0)), .second, .val (.long ((x0 * x0) * x0)), .second, .val (.long ((x0 * x0) * (x0 * x0))), .second, .val (.long (((x0 * x0) * (x0 * x0)) * x0)), .second, .val (.long (((x0 * x0) * x0) * ((x0 * x0) * x0))), .second] at_57 rfl (rfl : 57 + 2 = 59) ?_
    refine g_aload X69 hx hby at_59 rfl rfl (rfl : 59 + 2 = 61) ?_
    refine g_iconst X69 hx hby (0 : Int32) at_61 (by decide) (rfl : 61 + 1 = 62) ?_
    refine g_lconst X69 hx hby (1 : Int64) at_62 (by decide) (rfl : 62 + 1 = 63) ?_
    obtain ⟨_, _, ⟨T71, L71, k71, n71⟩, -, X71, ⟨Lc71, hQ71, l71, y71, z71⟩, st71⟩ := Jvm.LawKit.callS X69 hx (y := (⟨"com/example/markov_lumper/markovlumper/decimal/ScalingPowersPinLaw", "at", "([JIJ)Z"⟩ : MethodName)) hown (mvT hZ (hw _ (List.mem_of_getElem? (i := 5) rfl))) (mvT hZ (hw _ (List.mem_of_getElem? (i := 6) rfl))) (mvT hZ (hw _ (List.mem_of_getElem? (i := 7) rfl))) (mvT hZ (hw _ (List.mem_of_getElem? (i := 8) rfl))) (by decide) (backOf (W := 0) (rm_atL l Z a0 hw [] b_69 (0 : Int32) (1 : Int64) (3 : Int32) kk_69 [(.long (1 : Int64)), (.long ((1 : Int64) * x0)), (.long (((1 : Int64) * x0) * x0))] (1 : Int64) T69.heap n0 Z69 q69_1 rfl (by decide) (by decide)) hZ (hw _ (List.mem_of_getElem? (i := 8) rfl)) (hw _ (List.mem_of_getElem? (i := 7) rfl)) (by decide) (by decide)) (g := (mkF m 63 #[.val (.long x0), .second, .val (.int x2), .val (.int (3 : Int32)), .val (.ref b_69), .val (.long x0), .second, .val (.long (x0 * x0)), .second, .val (.long ((x0 * x0) * x0)), .second, .val (.long ((x0 * x0) * (x0 * x0))), .second, .val (.long (((x0 * x0) * (x0 * x0)) * x0)), .second, .val (.long (((x0 * x0) * x0) * ((x0 * x0) * x0))), .second] [(.long (1 : Int64)), (.int (0 : Int32)), (.ref b_69)])) rfl (by rw [hml]; rfl) (argsL := [(.ref b_69), (.int (0 : Int32)), (.long (1 : Int64))]) (rest := []) (lenOf pd1 rfl) rfl (by show 2 * 0 + _ ≤ _; exact Nat.le_of_eq rfl) (hb hby at_63) (fun _ _ => ⟨rfl, rfl, (by decide : 1 + 0 ≤ _), (by decide : 3 + 0 ≤ _)⟩)
    dsimp only [Pt.U, Pt.locs, Pt.cells, Pt.slots] at X71 l71 y71 z71 st71 hQ71
    subst l71 y71 z71
    obtain ⟨rfl, N71q, eq71⟩ := hQ71
    have N71 := Fr.app N69 N71q
    refine own_go st71 ?_
    show own_Got p e below _ T71 (mkF m 66 #[.val (.long x0), .second, .val (.int x2), .val (.int (3 : Int32)), .val (.ref b_69), .val (.long x0), .second, .val (.long (x0 * x0)), .second, .val (.long ((x0 * x0) * x0)), .second, .val (.long ((x0 * x0) * (x0 * x0))), .second, .val (.long (((x0 * x0) * (x0 * x0)) * x0)), .second, .val (.long (((x0 * x0) * x0) * ((x0 * x0) * x0))), .second] [(.int (F_atL (1 : Int64) (1 : Int64)))])
    have c72 : ¬ ((F_atL (1 : Int64) (1 : Int64)) = (0 : Int32)) := own_atne (by simp only [Int64.one_mul, Int64.mul_assoc])
    refine g_ifF X71 hx hby at_66 ((if0 _ _).trans (feq c72).1) (rfl : 66 + 3 = 69) ?_
    refine g_aload X71 hx hby at_69 rfl rfl (rfl : 69 + 2 = 71) ?_
    refine g_iconst X71 hx hby (1 : Int32) at_71 (by decide) (rfl : 71 + 1 = 72) ?_
    refine g_lload X71 hx hby at_72 rfl (rfl : 72 + 2 = 74) ?_
    obtain ⟨_, _, ⟨T73, L73, k73, n73⟩, -, X73, ⟨Lc73, hQ73, l73, y73, z73⟩, st73⟩ := Jvm.LawKit.callS X71 hx (y := (⟨"com/example/markov_lumper/markovlumper/decimal/ScalingPowersPinLaw", "at", "([JIJ)Z"⟩ : MethodName)) hown (mvT hZ (hw _ (List.mem_of_getElem? (i := 5) rfl))) (mvT hZ (hw _ (List.mem_of_getElem? (i := 6) rfl))) (mvT hZ (hw _ (List.mem_of_getElem? (i := 7) rfl))) (mvT hZ (hw _ (List.mem_of_getElem? (i := 8) rfl))) (by decide) (backOf (W := 0) (rm_atL l Z a0 hw [] b_69 (1 : Int32) x0 (3 : Int32) kk_69 [(.long (1 : Int64)), (.long ((1 : Int64) * x0)), (.long (((1 : Int64) * x0) * x0))] ((1 : Int64) * x0) T69.heap n0 Z69 q69_1 rfl (by decide) (by decide)) hZ (hw _ (List.mem_of_getElem? (i := 8) rfl)) (hw _ (List.mem_of_getElem? (i := 7) rfl)) (by decide) (by decide)) (g := (mkF m 74 #[.val (.long x0), .second, .val (.int x2), .val (.int (3 : Int32)), .val (.ref b_69), .val (.long x0), .second, .val (.long (x0 * x0)), .second, .val (.long ((x0 * x0) * x0)), .second, .val (.long ((x0 * x0) * (x0 * x0))), .second, .val (.long (((x0 * x0) * (x0 * x0)) * x0)), .second, .val (.long (((x0 * x0) * x0) * ((x0 * x0) * x0))), .second] [(.long x0), (.int (1 : Int32)), (.ref b_69)])) rfl (by rw [hml]; rfl) (argsL := [(.ref b_69), (.int (1 : Int32)), (.long x0)]) (rest := []) (lenOf pd1 rfl) rfl (by show 2 * 0 + _ ≤ _; exact Nat.le_of_eq rfl) (hb hby at_74) (fun _ _ => ⟨rfl, eq71, (by decide : 1 + 0 ≤ _), (by decide : 3 + 0 ≤ _)⟩)
    dsimp only [Pt.U, Pt.locs, Pt.cells, Pt.slots] at X73 l73 y73 z73 st73 hQ73
    subst l73 y73 z73
    obtain ⟨rfl, N73q, eq73⟩ := hQ73
    have N73 := Fr.app N71 N73q
    refine own_go st73 ?_
    show own_Got p e below _ T73 (mkF m 77 #[.val (.long x0), .second, .val (.int x2), .val (.int (3 : Int32)), .val (.ref b_69), .val (.long x0), .second, .val (.long (x0 * x0)), .second, .val (.long ((x0 * x0) * x0)), .second, .val (.long ((x0 * x0) * (x0 * x0))), .second, .val (.long (((x0 * x0) * (x0 * x0)) * x0)), .second, .val (.long (((x0 * x0) * x0) * ((x0 * x0) * x0))), .second] [(.int (F_atL ((1 : Int64) * x0) x0))])
    have c74 : ¬ ((F_atL ((1 : Int64) * x0) x0) = (0 : Int32)) := own_atne (by simp only [Int64.one_mul, Int64.mul_assoc])
    refine g_ifF X73 hx hby at_77 ((if0 _ _).trans (feq c74).1) (rfl : 77 + 3 = 80) ?_
    refine g_aload X73 hx hby at_80 rfl rfl (rfl : 80 + 2 = 82) ?_
    refine g_iconst X73 hx hby (2 : Int32) at_82 (by decide) (rfl : 82 + 1 = 83) ?_
    refine g_lload X73 hx hby at_83 rfl (rfl : 83 + 2 = 85) ?_
    obtain ⟨_, _, ⟨T75, L75, k75, n75⟩, -, X75, ⟨Lc75, hQ75, l75, y75, z75⟩, st75⟩ := Jvm.LawKit.callS X73 hx (y := (⟨"com/example/markov_lumper/markovlumper/decimal/ScalingPowersPinLaw", "at", "([JIJ)Z"⟩ : MethodName)) hown (mvT hZ (hw _ (List.mem_of_getElem? (i := 5) rfl))) (mvT hZ (hw _ (List.mem_of_getElem? (i := 6) rfl))) (mvT hZ (hw _ (List.mem_of_getElem? (i := 7) rfl))) (mvT hZ (hw _ (List.mem_of_getElem? (i := 8) rfl))) (by decide) (backOf (W := 0) (rm_atL l Z a0 hw [] b_69 (2 : Int32) (x0 * x0) (3 : Int32) kk_69 [(.long (1 : Int64)), (.long ((1 : Int64) * x0)), (.long (((1 : Int64) * x0) * x0))] (((1 : Int64) * x0) * x0) T69.heap n0 Z69 q69_1 rfl (by decide) (by decide)) hZ (hw _ (List.mem_of_getElem? (i := 8) rfl)) (hw _ (List.mem_of_getElem? (i := 7) rfl)) (by decide) (by decide)) (g := (mkF m 85 #[.val (.long x0), .second, .val (.int x2), .val (.int (3 : Int32)), .val (.ref b_69), .val (.long x0), .second, .val (.long (x0 * x0)), .second, .val (.long ((x0 * x0) * x0)), .second, .val (.long ((x0 * x0) * (x0 * x0))), .second, .val (.long (((x0 * x0) * (x0 * x0)) * x0)), .second, .val (.long (((x0 * x0) * x0) * ((x0 * x0) * x0))), .second] [(.long (x0 * x0)), (.int (2 : Int32)), (.ref b_69)])) rfl (by rw [hml]; rfl) (argsL := [(.ref b_69), (.int (2 : Int32)), (.long (x0 * x0))]) (rest := []) (lenOf pd1 rfl) rfl (by show 2 * 0 + _ ≤ _; exact Nat.le_of_eq rfl) (hb hby at_85) (fun _ _ => ⟨rfl, eq73, (by decide : 1 + 0 ≤ _), (by decide : 3 + 0 ≤ _)⟩)
    dsimp only [Pt.U, Pt.locs, Pt.cells, Pt.slots] at X75 l75 y75 z75 st75 hQ75
    subst l75 y75 z75
    obtain ⟨rfl, N75q, eq75⟩ := hQ75
    have N75 := Fr.app N73 N75q
    refine own_go st75 ?_
    show own_Got p e below _ T75 (mkF m 88 #[.val (.long x0), .second, .val (.int x2), .val (.int (3 : Int32)), .val (.ref b_69), .val (.long x0), .second, .val (.long (x0 * x0)), .second, .val (.long ((x0 * x0) * x0)), .second, .val (.long ((x0 * x0) * (x0 * x0))), .second, .val (.long (((x0 * x0) * (x0 * x0)) * x0)), .second, .val (.long (((x0 * x0) * x0) * ((x0 * x0) * x0))), .second] [(.int (F_atL (((1 : Int64) * x0) * x0) (x0 * x0)))])
    have c76 : ¬ ((F_atL (((1 : Int64) * x0) * x0) (x0 * x0)) = (0 : Int32)) := own_atne (by simp only [Int64.one_mul, Int64.mul_assoc])
    refine g_ifF X75 hx hby at_88 ((if0 _ _).trans (feq c76).1) (rfl : 88 + 3 = 91) ?_
    refine g_aload X75 hx hby at_91 rfl rfl (rfl : 91 + 2 = 93) ?_
    refine g_iconst X75 hx hby (3 : Int32) at_93 (by decide) (rfl : 93 + 1 = 94) ?_
    refine g_lload X75 hx hby at_94 rfl (rfl : 94 + 2 = 96) ?_
    obtain ⟨_, _, ⟨T77, L77, k77, n77⟩, -, X77, ⟨Lc77, hQ77, l77, y77, z77⟩, st77⟩ := Jvm.LawKit.callS X75 hx (y := (⟨"com/example/markov_lumper/markovlumper/decimal/ScalingPowersPinLaw", "at", "([JIJ)Z"⟩ : MethodName)) hown (mvT hZ (hw _ (List.mem_of_getElem? (i := 5) rfl))) (mvT hZ (hw _ (List.mem_of_getElem? (i := 6) rfl))) (mvT hZ (hw _ (List.mem_of_getElem? (i := 7) rfl))) (mvT hZ (hw _ (List.mem_of_getElem? (i := 8) rfl))) (by decide) (backOf (W := 0) (rm_atG l Z a0 hw [] b_69 (3 : Int32) ((x0 * x0) * x0) (3 : Int32) kk_69 [(.long (1 : Int64)), (.long ((1 : Int64) * x0)), (.long (((1 : Int64) * x0) * x0))] T69.heap n0 Z69 q69_1 (by decide)) hZ (hw _ (List.mem_of_getElem? (i := 8) rfl)) (hw _ (List.mem_of_getElem? (i := 7) rfl)) (by decide) (by decide)) (g := (mkF m 96 #[.val (.long x0), .second, .val (.int x2), .val (.int (3 : Int32)), .val (.ref b_69), .val (.long x0), .second, .val (.long (x0 * x0)), .second, .val (.long ((x0 * x0) * x0)), .second, .val (.long ((x0 * x0) * (x0 * x0))), .second, .val (.long (((x0 * x0) * (x0 * x0)) * x0)), .second, .val (.long (((x0 * x0) * x0) * ((x0 * x0) * x0))), .second] [(.long ((x0 * x0) * x0)), (.int (3 : Int32)), (.ref b_69)])) rfl (by rw [hml]; rfl) (argsL := [(.ref b_69), (.int (3 : Int32)), (.long ((x0 * x0) * x0))]) (rest := []) (lenOf pd1 rfl) rfl (by show 2 * 0 + _ ≤ _; exact Nat.le_of_eq rfl) (hb hby at_96) (fun _ _ => ⟨rfl, eq75, (by decide : 1 + 0 ≤ _), (by decide : 3 + 0 ≤ _)⟩)
    dsimp only [Pt.U, Pt.locs, Pt.cells, Pt.slots] at X77 l77 y77 z77 st77 hQ77
    subst l77 y77 z77
    obtain ⟨rfl, N77q, eq77⟩ := hQ77
    have N77 := Fr.app N75 N77q
    refine own_go st77 ?_
    show own_Got p e below _ T77 (mkF m 99 #[.val (.long x0), .second, .val (.int x2), .val (.int (3 : Int32)), .val (.ref b_69), .val (.long x0), .second, .val (.long (x0 * x0)), .second, .val (.long ((x0 * x0) * x0)), .second, .val (.long ((x0 * x0) * (x0 * x0))), .second, .val (.long (((x0 * x0) * (x0 * x0)) * x0)), .second, .val (.long (((x0 * x0) * x0) * ((x0 * x0) * x0))), .second] [(.int (1 : Int32))])
    refine g_ifF X77 hx hby at_99 ((if0 _ _).trans (feq (by decide : ¬ ((1 : Int32) = (0 : Int32)))).1) (rfl : 99 + 3 = 102) ?_
    refine g_aload X77 hx hby at_102 rfl rfl (rfl : 102 + 2 = 104) ?_
    refine g_iconst X77 hx hby (4 : Int32) at_104 (by decide) (rfl : 104 + 1 = 105) ?_
    refine g_lload X77 hx hby at_105 rfl (rfl : 105 + 2 = 107) ?_
    obtain ⟨_, _, ⟨T78, L78, k78, n78⟩, -, X78, ⟨Lc78, hQ78, l78, y78, z78⟩, st78⟩ := Jvm.LawKit.callS X77 hx (y := (⟨"com/example/markov_lumper/markovlumper/decimal/ScalingPowersPinLaw", "at", "([JIJ)Z"⟩ : MethodName)) hown (mvT hZ (hw _ (List.mem_of_getElem? (i := 5) rfl))) (mvT hZ (hw _ (List.mem_of_getElem? (i := 6) rfl))) (mvT hZ (hw _ (List.mem_of_getElem? (i := 7) rfl))) (mvT hZ (hw _ (List.mem_of_getElem? (i := 8) rfl))) (by decide) (backOf (W := 0) (rm_atG l Z a0 hw [] b_69 (4 : Int32) ((x0 * x0) * (x0 * x0)) (3 : Int32) kk_69 [(.long (1 : Int64)), (.long ((1 : Int64) * x0)), (.long (((1 : Int64) * x0) * x0))] T69.heap n0 Z69 q69_1 (by decide)) hZ (hw _ (List.mem_of_getElem? (i := 8) rfl)) (hw _ (List.mem_of_getElem? (i := 7) rfl)) (by decide) (by decide)) (g := (mkF m 107 #[.val (.long x0), .second, .val (.int x2), .val (.int (3 : Int32)), .val (.ref b_69), .val (.long x0), .second, .val (.long (x0 * x0)), .second, .val (.long ((x0 * x0) * x0)), .second, .val (.long ((x0 * x0) * (x0 * x0))), .second, .val (.long (((x0 * x0) * (x0 * x0)) * x0)), .second, .val (.long (((x0 * x0) * x0) * ((x0 * x0) * x0))), .second] [(.long ((x0 * x0) * (x0 * x0))), (.int (4 : Int32)), (.ref b_69)])) rfl (by rw [hml]; rfl) (argsL := [(.ref b_69), (.int (4 : Int32)), (.long ((x0 * x0) * (x0 * x0)))]) (rest := []) (lenOf pd1 rfl) rfl (by show 2 * 0 + _ ≤ _; exact Nat.le_of_eq rfl) (hb hby at_107) (fun _ _ => ⟨rfl, eq77, (by decide : 1 + 0 ≤ _), (by decide : 3 + 0 ≤ _)⟩)
    dsimp only [Pt.U, Pt.locs, Pt.cells, Pt.slots] at X78 l78 y78 z78 st78 hQ78
    subst l78 y78 z78
    obtain ⟨rfl, N78q, eq78⟩ := hQ78
    have N78 := Fr.app N77 N78q
    refine own_go st78 ?_
    show own_Got p e below _ T78 (mkF m 110 #[.val (.long x0), .second, .val (.int x2), .val (.int (3 : Int32)), .val (.ref b_69), .val (.long x0), .second, .val (.long (x0 * x0)), .second, .val (.long ((x0 * x0) * x0)), .second, .val (.long ((x0 * x0) * (x0 * x0))), .second, .val (.long (((x0 * x0) * (x0 * x0)) * x0)), .second, .val (.long (((x0 * x0) * x0) * ((x0 * x0) * x0))), .second] [(.int (1 : Int32))])
    refine g_ifF X78 hx hby at_110 ((if0 _ _).trans (feq (by decide : ¬ ((1 : Int32) = (0 : Int32)))).1) (rfl : 110 + 3 = 113) ?_
    refine g_aload X78 hx hby at_113 rfl rfl (rfl : 113 + 2 = 115) ?_
    refine g_iconst X78 hx hby (5 : Int32) at_115 (by decide) (rfl : 115 + 1 = 116) ?_
    refine g_lload X78 hx hby at_116 rfl (rfl : 116 + 2 = 118) ?_
    obtain ⟨_, _, ⟨T79, L79, k79, n79⟩, -, X79, ⟨Lc79, hQ79, l79, y79, z79⟩, st79⟩ := Jvm.LawKit.callS X78 hx (y := (⟨"com/example/markov_lumper/markovlumper/decimal/ScalingPowersPinLaw", "at", "([JIJ)Z"⟩ : MethodName)) hown (mvT hZ (hw _ (List.mem_of_getElem? (i := 5) rfl))) (mvT hZ (hw _ (List.mem_of_getElem? (i := 6) rfl))) (mvT hZ (hw _ (List.mem_of_getElem? (i := 7) rfl))) (mvT hZ (hw _ (List.mem_of_getElem? (i := 8) rfl))) (by decide) (backOf (W := 0) (rm_atG l Z a0 hw [] b_69 (5 : Int32) (((x0 * x0) * (x0 * x0)) * x0) (3 : Int32) kk_69 [(.long (1 : Int64)), (.long ((1 : Int64) * x0)), (.long (((1 : Int64) * x0) * x0))] T69.heap n0 Z69 q69_1 (by decide)) hZ (hw _ (List.mem_of_getElem? (i := 8) rfl)) (hw _ (List.mem_of_getElem? (i := 7) rfl)) (by decide) (by decide)) (g := (mkF m 118 #[.val (.long x0), .second, .val (.int x2), .val (.int (3 : Int32)), .val (.ref b_69), .val (.long x0), .second, .val (.long (x0 * x0)), .second, .val (.long ((x0 * x0) * x0)), .second, .val (.long ((x0 * x0) * (x0 * x0))), .second, .val (.long (((x0 * x0) * (x0 * x0)) * x0)), .second, .val (.long (((x0 * x0) * x0) * ((x0 * x0) * x0))), .second] [(.long (((x0 * x0) * (x0 * x0)) * x0)), (.int (5 : Int32)), (.ref b_69)])) rfl (by rw [hml]; rfl) (argsL := [(.ref b_69), (.int (5 : Int32)), (.long (((x0 * x0) * (x0 * x0)) * x0))]) (rest := []) (lenOf pd1 rfl) rfl (by show 2 * 0 + _ ≤ _; exact Nat.le_of_eq rfl) (hb hby at_118) (fun _ _ => ⟨rfl, eq78, (by decide : 1 + 0 ≤ _), (by decide : 3 + 0 ≤ _)⟩)
    dsimp only [Pt.U, Pt.locs, Pt.cells, Pt.slots] at X79 l79 y79 z79 st79 hQ79
    subst l79 y79 z79
    obtain ⟨rfl, N79q, eq79⟩ := hQ79
    have N79 := Fr.app N78 N79q
    refine own_go st79 ?_
    show own_Got p e below _ T79 (mkF m 121 #[.val (.long x0), .second, .val (.int x2), .val (.int (3 : Int32)), .val (.ref b_69), .val (.long x0), .second, .val (.long (x0 * x0)), .second, .val (.long ((x0 * x0) * x0)), .second, .val (.long ((x0 * x0) * (x0 * x0))), .second, .val (.long (((x0 * x0) * (x0 * x0)) * x0)), .second, .val (.long (((x0 * x0) * x0) * ((x0 * x0) * x0))), .second] [(.int (1 : Int32))])
    refine g_ifF X79 hx hby at_121 ((if0 _ _).trans (feq (by decide : ¬ ((1 : Int32) = (0 : Int32)))).1) (rfl : 121 + 3 = 124) ?_
    refine g_aload X79 hx hby at_124 rfl rfl (rfl : 124 + 2 = 126) ?_
    refine g_bipush X79 hx hby (6 : Int32) at_126 (by decide) (rfl : 126 + 2 = 128) ?_
    refine g_lload X79 hx hby at_128 rfl (rfl : 128 + 2 = 130) ?_
    obtain ⟨_, _, ⟨T80, L80, k80, n80⟩, -, X80, ⟨Lc80, hQ80, l80, y80, z80⟩, st80⟩ := Jvm.LawKit.callS X79 hx (y := (⟨"com/example/markov_lumper/markovlumper/decimal/ScalingPowersPinLaw", "at", "([JIJ)Z"⟩ : MethodName)) hown (mvT hZ (hw _ (List.mem_of_getElem? (i := 5) rfl))) (mvT hZ (hw _ (List.mem_of_getElem? (i := 6) rfl))) (mvT hZ (hw _ (List.mem_of_getElem? (i := 7) rfl))) (mvT hZ (hw _ (List.mem_of_getElem? (i := 8) rfl))) (by decide) (backOf (W := 0) (rm_atG l Z a0 hw [] b_69 (6 : Int32) (((x0 * x0) * x0) * ((x0 * x0) * x0)) (3 : Int32) kk_69 [(.long (1 : Int64)), (.long ((1 : Int64) * x0)), (.long (((1 : Int64) * x0) * x0))] T69.heap n0 Z69 q69_1 (by decide)) hZ (hw _ (List.mem_of_getElem? (i := 8) rfl)) (hw _ (List.mem_of_getElem? (i := 7) rfl)) (by decide) (by decide)) (g := (mkF m 130 #[.val (.long x0), .second, .val (.int x2), .val (.int (3 : Int32)), .val (.ref b_69), .val (.long x0), .second, .val (.long (x0 * x0)), .second, .val (.long ((x0 * x0) * x0)), .second, .val (.long ((x0 * x0) * (x0 * x0))), .second, .val (.long (((x0 * x0) * (x0 * x0)) * x0)), .second, .val (.long (((x0 * x0) * x0) * ((x0 * x0) * x0))), .second] [(.long (((x0 * x0) * x0) * ((x0 * x0) * x0))), (.int (6 : Int32)), (.ref b_69)])) rfl (by rw [hml]; rfl) (argsL := [(.ref b_69), (.int (6 : Int32)), (.long (((x0 * x0) * x0) * ((x0 * x0) * x0)))]) (rest := []) (lenOf pd1 rfl) rfl (by show 2 * 0 + _ ≤ _; exact Nat.le_of_eq rfl) (hb hby at_130) (fun _ _ => ⟨rfl, eq79, (by decide : 1 + 0 ≤ _), (by decide : 3 + 0 ≤ _)⟩)
    dsimp only [Pt.U, Pt.locs, Pt.cells, Pt.slots] at X80 l80 y80 z80 st80 hQ80
    subst l80 y80 z80
    obtain ⟨rfl, N80q, eq80⟩ := hQ80
    have N80 := Fr.app N79 N80q
    refine own_go st80 ?_
    show own_Got p e below _ T80 (mkF m 133 #[.val (.long x0), .second, .val (.int x2), .val (.int (3 : Int32)), .val (.ref b_69), .val (.long x0), .second, .val (.long (x0 * x0)), .second, .val (.long ((x0 * x0) * x0)), .second, .val (.long ((x0 * x0) * (x0 * x0))), .second, .val (.long (((x0 * x0) * (x0 * x0)) * x0)), .second, .val (.long (((x0 * x0) * x0) * ((x0 * x0) * x0))), .second] [(.int (1 : Int32))])
    refine g_ifF X80 hx hby at_133 ((if0 _ _).trans (feq (by decide : ¬ ((1 : Int32) = (0 : Int32)))).1) (rfl : 133 + 3 = 136) ?_
    refine g_iconst X80 hx hby (1 : Int32) at_136 (by decide) (rfl : 136 + 1 = 137) ?_
    refine g_goto X80 hx hby at_137 (by decide) (pc' := 141) (by decide) ?_
    refine own_retN X80 hx hby hlk (t := .boolean) hrt (by simp) at_141 (by decide) (by decide) ?_
    show Q_law Z x0 x2 h0 n0 _ T80.heap _
    exact ⟨rfl, N80⟩
  · rw [hk38]
    refine g_lloadN X0 hx hby at_5 rfl (rfl : 5 + 1 = 6) ?_
    refine g_iloadN X0 hx hby at_6 rfl (rfl : 6 + 1 = 7) ?_
    obtain ⟨_, _, ⟨T81, L81, k81, n81⟩, -, X81, ⟨Lc81, hQ81, l81, y81, z81⟩, st81⟩ := Jvm.LawKit.callS X0 hx (y := (⟨"com/example/markov_lumper/markovlumper/decimal/Scaling", "powers", "(JI)[J"⟩ : MethodName)) hown (mvT hZ (hw _ (List.mem_of_getElem? (i := 0) rfl))) (mvT hZ (hw _ (List.mem_of_getElem? (i := 1) rfl))) (mvT hZ (hw _ (List.mem_of_getElem? (i := 2) rfl))) (mvT hZ (hw _ (List.mem_of_getElem? (i := 3) rfl))) (by decide) (backOf (W := 0) (rm_pw4 l Z a0 hw [] x0 h0 n0 Z0) hZ (hw _ (List.mem_of_getElem? (i := 3) rfl)) (hw _ (List.mem_of_getElem? (i := 2) rfl)) (by decide) (by decide)) (g := (mkF m 7 #[.val (.long x0), .second, .val (.int x2), .val (.int (4 : Int32)), .unset, .unset, .unset, .unset, .unset, .unset, .unset, .unset, .unset, .unset, .unset, .unset, .unset] [(.int (4 : Int32)), (.long x0)])) rfl (by rw [hml]; rfl) (argsL := [(.long x0), (.int (4 : Int32))]) (rest := []) (lenOf pd0 rfl) rfl (by show 2 * 0 + _ ≤ _; exact Nat.le_of_eq rfl) (hb hby at_7) (fun _ _ => ⟨rfl, e0, (by decide : 0 + 1 ≤ _), (by decide : 0 + 4 ≤ _)⟩)
    dsimp only [Pt.U, Pt.locs, Pt.cells, Pt.slots] at X81 l81 y81 z81 st81 hQ81
    subst l81 y81 z81
    obtain ⟨b_81, kk_81, rfl, N81q, K81, q81_0, q81_1⟩ := hQ81
    have N81 := Fr.app N0 N81q
    have Z81 : n0 ≤ T81.heap.size := Nat.le_trans Z0 K81.1
    have ge82 : n0 ≤ b_81 := Nat.le_trans Z0 q81_0
    refine own_go st81 ?_
    show own_Got p e below _ T81 (mkF m 10 #[.val (.long x0), .second, .val (.int x2), .val (.int (4 : Int32)), .unset, .unset, .unset, .unset, .unset, .unset, .unset, .unset, .unset, .unset, .unset, .unset, .unset] [(.ref b_81)])
    refine g_astore X81 hx hby #[.val (.long x0), .second, .val (.int x2), .val (.int (4 : Int32)), .val (.ref b_81), .unset, .unset, .unset, .unset, .unset, .unset, .unset, .unset, .unset, .unset, .unset, .unset] at_10 rfl rfl (rfl : 10 + 2 = 12) ?_
    refine g_aload X81 hx hby at_12 rfl rfl (rfl : 12 + 2 = 14) ?_
    refine g_alen X81 hx hby hZ rfl q81_1 at_14 (rfl : 14 + 1 = 15) ?_
    refine g_iloadN X81 hx hby at_15 rfl (rfl : 15 + 1 = 16) ?_
    refine g_icT X81 hx hby at_16 (teq (by decide : (4 : Int32) = (4 : Int32))).1 (by decide) (pc' := 21) (by decide) ?_
    refine g_lloadN X81 hx hby at_21 rfl (rfl : 21 + 1 = 22) ?_
    refine g_lstore X81 hx hby #[.val (.long x0), .second, .val (.int x2), .val (.int (4 : Int32)), .val (.ref b_81), .val (.long x0), .second, .unset, .unset, .unset, .unset, .unset, .unset, .unset, .unset, .unset, .unset] at_22 rfl (rfl : 22 + 2 = 24) ?_
    refine g_lload X81 hx hby at_24 rfl (rfl : 24 + 2 = 26) ?_
    refine g_lload X81 hx hby at_26 rfl (rfl : 26 + 2 = 28) ?_
    refine g_lmul X81 hx hby at_28 (rfl : 28 + 1 = 29) ?_
    refine g_lstore X81 hx hby #[.val (.long x0), .second, .val (.int x2), .val (.int (4 : Int32)), .val (.ref b_81), .val (.long x0), .second, .val (.long (x0 * x0)), .second, .unset, .unset, .unset, .unset, .unset, .unset, .unset, .unset] at_29 rfl (rfl : 29 + 2 = 31) ?_
    refine g_lload X81 hx hby at_31 rfl (rfl : 31 + 2 = 33) ?_
    refine g_lload X81 hx hby at_33 rfl (rfl : 33 + 2 = 35) ?_
    refine g_lmul X81 hx hby at_35 (rfl : 35 + 1 = 36) ?_
    refine g_lstore X81 hx hby #[.val (.long x0), .second, .val (.int x2), .val (.int (4 : Int32)), .val (.ref b_81), .val (.long x0), .second, .val (.long (x0 * x0)), .second, .val (.long ((x0 * x0) * x0)), .second, .unset, .unset, .unset, .unset, .unset, .unset] at_36 rfl (rfl : 36 + 2 = 38) ?_
    refine g_lload X81 hx hby at_38 rfl (rfl : 38 + 2 = 40) ?_
    refine g_lload X81 hx hby at_40 rfl (rfl : 40 + 2 = 42) ?_
    refine g_lmul X81 hx hby at_42 (rfl : 42 + 1 = 43) ?_
    refine g_lstore X81 hx hby #[.val (.long x0), .second, .val (.int x2), .val (.int (4 : Int32)), .val (.ref b_81), .val (.long x0), .second, .val (.long (x0 * x0)), .second, .val (.long ((x0 * x0) * x0)), .second, .val (.long ((x0 * x0) * (x0 * x0))), .second, .unset, .unset, .unset, .unset] at_43 rfl (rfl : 43 + 2 = 45) ?_
    refine g_lload X81 hx hby at_45 rfl (rfl : 45 + 2 = 47) ?_
    refine g_lload X81 hx hby at_47 rfl (rfl : 47 + 2 = 49) ?_
    refine g_lmul X81 hx hby at_49 (rfl : 49 + 1 = 50) ?_
    refine g_lstore X81 hx hby #[.val (.long x0), .second, .val (.int x2), .val (.int (4 : Int32)), .val (.ref b_81), .val (.long x0), .second, .val (.long (x0 * x0)), .second, .val (.long ((x0 * x0) * x0)), .second, .val (.long ((x0 * x0) * (x0 * x0))), .second, .val (.long (((x0 * x0) * (x0 * x0)) * x0)), .second, .unset, .unset] at_50 rfl (rfl : 50 + 2 = 52) ?_
    refine g_lload X81 hx hby at_52 rfl (rfl : 52 + 2 = 54) ?_
    refine g_lload X81 hx hby at_54 rfl (rfl : 54 + 2 = 56) ?_
    refine g_lmul X81 hx hby at_56 (rfl : 56 + 1 = 57) ?_
    refine g_lstore X81 hx hby #[.val (.long x0), .second, .val (.int x2), .val (.int (4 : Int32)), .val (.ref b_81), .val (.long x0), .second, .val (.long (x0 * x0)), .second, .val (.long ((x0 * x0) * x0)), .second, .val (.long ((x0 * x0) * (x0 * x0))), .second, .val (.long (((x0 * x0) * (x0 * x0)) * x0)), .second, .val (.long (((x0 * x0) * x0) * ((x0 * x0) * x0))), .second] at_57 rfl (rfl : 57 + 2 = 59) ?_
    refine g_aload X81 hx hby at_59 rfl rfl (rfl : 59 + 2 = 61) ?_
    refine g_iconst X81 hx hby (0 : Int32) at_61 (by decide) (rfl : 61 + 1 = 62) ?_
    refine g_lconst X81 hx hby (1 : Int64) at_62 (by decide) (rfl : 62 + 1 = 63) ?_
    obtain ⟨_, _, ⟨T83, L83, k83, n83⟩, -, X83, ⟨Lc83, hQ83, l83, y83, z83⟩, st83⟩ := Jvm.LawKit.callS X81 hx (y := (⟨"com/example/markov_lumper/markovlumper/decimal/ScalingPowersPinLaw", "at", "([JIJ)Z"⟩ : MethodName)) hown (mvT hZ (hw _ (List.mem_of_getElem? (i := 5) rfl))) (mvT hZ (hw _ (List.mem_of_getElem? (i := 6) rfl))) (mvT hZ (hw _ (List.mem_of_getElem? (i := 7) rfl))) (mvT hZ (hw _ (List.mem_of_getElem? (i := 8) rfl))) (by decide) (backOf (W := 0) (rm_atL l Z a0 hw [] b_81 (0 : Int32) (1 : Int64) (4 : Int32) kk_81 [(.long (1 : Int64)), (.long ((1 : Int64) * x0)), (.long (((1 : Int64) * x0) * x0)), (.long ((((1 : Int64) * x0) * x0) * x0))] (1 : Int64) T81.heap n0 Z81 q81_1 rfl (by decide) (by decide)) hZ (hw _ (List.mem_of_getElem? (i := 8) rfl)) (hw _ (List.mem_of_getElem? (i := 7) rfl)) (by decide) (by decide)) (g := (mkF m 63 #[.val (.long x0), .second, .val (.int x2), .val (.int (4 : Int32)), .val (.ref b_81), .val (.long x0), .second, .val (.long (x0 * x0)), .second, .val (.long ((x0 * x0) * x0)), .second, .val (.long ((x0 * x0) * (x0 * x0))), .second, .val (.long (((x0 * x0) * (x0 * x0)) * x0)), .second, .val (.long (((x0 * x0) * x0) * ((x0 * x0) * x0))), .second] [(.long (1 : Int64)), (.int (0 : Int32)), (.ref b_81)])) rfl (by rw [hml]; rfl) (argsL := [(.ref b_81), (.int (0 : Int32)), (.long (1 : Int64))]) (rest := []) (lenOf pd1 rfl) rfl (by show 2 * 0 + _ ≤ _; exact Nat.le_of_eq rfl) (hb hby at_63) (fun _ _ => ⟨rfl, rfl, (by decide : 1 + 0 ≤ _), (by decide : 4 + 0 ≤ _)⟩)
    dsimp only [Pt.U, Pt.locs, Pt.cells, Pt.slots] at X83 l83 y83 z83 st83 hQ83
    subst l83 y83 z83
    obtain ⟨rfl, N83q, eq83⟩ := hQ83
    have N83 := Fr.app N81 N83q
    refine own_go st83 ?_
    show own_Got p e below _ T83 (mkF m 66 #[.val (.long x0), .second, .val (.int x2), .val (.int (4 : Int32)), .val (.ref b_81), .val (.long x0), .second, .val (.long (x0 * x0)), .second, .val (.long ((x0 * x0) * x0)), .second, .val (.long ((x0 * x0) * (x0 * x0))), .second, .val (.long (((x0 * x0) * (x0 * x0)) * x0)), .second, .val (.long (((x0 * x0) * x0) * ((x0 * x0) * x0))), .second] [(.int (F_atL (1 : Int64) (1 : Int64)))])
    have c84 : ¬ ((F_atL (1 : Int64) (1 : Int64)) = (0 : Int32)) := own_atne (by simp only [Int64.one_mul, Int64.mul_assoc])
    refine g_ifF X83 hx hby at_66 ((if0 _ _).trans (feq c84).1) (rfl : 66 + 3 = 69) ?_
    refine g_aload X83 hx hby at_69 rfl rfl (rfl : 69 + 2 = 71) ?_
    refine g_iconst X83 hx hby (1 : Int32) at_71 (by decide) (rfl : 71 + 1 = 72) ?_
    refine g_lload X83 hx hby at_72 rfl (rfl : 72 + 2 = 74) ?_
    obtain ⟨_, _, ⟨T85, L85, k85, n85⟩, -, X85, ⟨Lc85, hQ85, l85, y85, z85⟩, st85⟩ := Jvm.LawKit.callS X83 hx (y := (⟨"com/example/markov_lumper/markovlumper/decimal/ScalingPowersPinLaw", "at", "([JIJ)Z"⟩ : MethodName)) hown (mvT hZ (hw _ (List.mem_of_getElem? (i := 5) rfl))) (mvT hZ (hw _ (List.mem_of_getElem? (i := 6) rfl))) (mvT hZ (hw _ (List.mem_of_getElem? (i := 7) rfl))) (mvT hZ (hw _ (List.mem_of_getElem? (i := 8) rfl))) (by decide) (backOf (W := 0) (rm_atL l Z a0 hw [] b_81 (1 : Int32) x0 (4 : Int32) kk_81 [(.long (1 : Int64)), (.long ((1 : Int64) * x0)), (.long (((1 : Int64) * x0) * x0)), (.long ((((1 : Int64) * x0) * x0) * x0))] ((1 : Int64) * x0) T81.heap n0 Z81 q81_1 rfl (by decide) (by decide)) hZ (hw _ (List.mem_of_getElem? (i := 8) rfl)) (hw _ (List.mem_of_getElem? (i := 7) rfl)) (by decide) (by decide)) (g := (mkF m 74 #[.val (.long x0), .second, .val (.int x2), .val (.int (4 : Int32)), .val (.ref b_81), .val (.long x0), .second, .val (.long (x0 * x0)), .second, .val (.long ((x0 * x0) * x0)), .second, .val (.long ((x0 * x0) * (x0 * x0))), .second, .val (.long (((x0 * x0) * (x0 * x0)) * x0)), .second, .val (.long (((x0 * x0) * x0) * ((x0 * x0) * x0))), .second] [(.long x0), (.int (1 : Int32)), (.ref b_81)])) rfl (by rw [hml]; rfl) (argsL := [(.ref b_81), (.int (1 : Int32)), (.long x0)]) (rest := []) (lenOf pd1 rfl) rfl (by show 2 * 0 + _ ≤ _; exact Nat.le_of_eq rfl) (hb hby at_74) (fun _ _ => ⟨rfl, eq83, (by decide : 1 + 0 ≤ _), (by decide : 4 + 0 ≤ _)⟩)
    dsimp only [Pt.U, Pt.locs, Pt.cells, Pt.slots] at X85 l85 y85 z85 st85 hQ85
    subst l85 y85 z85
    obtain ⟨rfl, N85q, eq85⟩ := hQ85
    have N85 := Fr.app N83 N85q
    refine own_go st85 ?_
    show own_Got p e below _ T85 (mkF m 77 #[.val (.long x0), .second, .val (.int x2), .val (.int (4 : Int32)), .val (.ref b_81), .val (.long x0), .second, .val (.long (x0 * x0)), .second, .val (.long ((x0 * x0) * x0)), .second, .val (.long ((x0 * x0) * (x0 * x0))), .second, .val (.long (((x0 * x0) * (x0 * x0)) * x0)), .second, .val (.long (((x0 * x0) * x0) * ((x0 * x0) * x0))), .second] [(.int (F_atL ((1 : Int64) * x0) x0))])
    have c86 : ¬ ((F_atL ((1 : Int64) * x0) x0) = (0 : Int32)) := own_atne (by simp only [Int64.one_mul, Int64.mul_assoc])
    refine g_ifF X85 hx hby at_77 ((if0 _ _).trans (feq c86).1) (rfl : 77 + 3 = 80) ?_
    refine g_aload X85 hx hby at_80 rfl rfl (rfl : 80 + 2 = 82) ?_
    refine g_iconst X85 hx hby (2 : Int32) at_82 (by decide) (rfl : 82 + 1 = 83) ?_
    refine g_lload X85 hx hby at_83 rfl (rfl : 83 + 2 = 85) ?_
    obtain ⟨_, _, ⟨T87, L87, k87, n87⟩, -, X87, ⟨Lc87, hQ87, l87, y87, z87⟩, st87⟩ := Jvm.LawKit.callS X85 hx (y := (⟨"com/example/markov_lumper/markovlumper/decimal/ScalingPowersPinLaw", "at", "([JIJ)Z"⟩ : MethodName)) hown (mvT hZ (hw _ (List.mem_of_getElem? (i := 5) rfl))) (mvT hZ (hw _ (List.mem_of_getElem? (i := 6) rfl))) (mvT hZ (hw _ (List.mem_of_getElem? (i := 7) rfl))) (mvT hZ (hw _ (List.mem_of_getElem? (i := 8) rfl))) (by decide) (backOf (W := 0) (rm_atL l Z a0 hw [] b_81 (2 : Int32) (x0 * x0) (4 : Int32) kk_81 [(.long (1 : Int64)), (.long ((1 : Int64) * x0)), (.long (((1 : Int64) * x0) * x0)), (.long ((((1 : Int64) * x0) * x0) * x0))] (((1 : Int64) * x0) * x0) T81.heap n0 Z81 q81_1 rfl (by decide) (by decide)) hZ (hw _ (List.mem_of_getElem? (i := 8) rfl)) (hw _ (List.mem_of_getElem? (i := 7) rfl)) (by decide) (by decide)) (g := (mkF m 85 #[.val (.long x0), .second, .val (.int x2), .val (.int (4 : Int32)), .val (.ref b_81), .val (.long x0), .second, .val (.long (x0 * x0)), .second, .val (.long ((x0 * x0) * x0)), .second, .val (.long ((x0 * x0) * (x0 * x0))), .second, .val (.long (((x0 * x0) * (x0 * x0)) * x0)), .second, .val (.long (((x0 * x0) * x0) * ((x0 * x0) * x0))), .second] [(.long (x0 * x0)), (.int (2 : Int32)), (.ref b_81)])) rfl (by rw [hml]; rfl) (argsL := [(.ref b_81), (.int (2 : Int32)), (.long (x0 * x0))]) (rest := []) (lenOf pd1 rfl) rfl (by show 2 * 0 + _ ≤ _; exact Nat.le_of_eq rfl) (hb hby at_85) (fun _ _ => ⟨rfl, eq85, (by decide : 1 + 0 ≤ _), (by decide : 4 + 0 ≤ _)⟩)
    dsimp only [Pt.U, Pt.locs, Pt.cells, Pt.slots] at X87 l87 y87 z87 st87 hQ87
    subst l87 y87 z87
    obtain ⟨rfl, N87q, eq87⟩ := hQ87
    have N87 := Fr.app N85 N87q
    refine own_go st87 ?_
    show own_Got p e below _ T87 (mkF m 88 #[.val (.long x0), .second, .val (.int x2), .val (.int (4 : Int32)), .val (.ref b_81), .val (.long x0), .second, .val (.long (x0 * x0)), .second, .val (.long ((x0 * x0) * x0)), .second, .val (.long ((x0 * x0) * (x0 * x0))), .second, .val (.long (((x0 * x0) * (x0 * x0)) * x0)), .second, .val (.long (((x0 * x0) * x0) * ((x0 * x0) * x0))), .second] [(.int (F_atL (((1 : Int64) * x0) * x0) (x0 * x0)))])
    have c88 : ¬ ((F_atL (((1 : Int64) * x0) * x0) (x0 * x0)) = (0 : Int32)) := own_atne (by simp only [Int64.one_mul, Int64.mul_assoc])
    refine g_ifF X87 hx hby at_88 ((if0 _ _).trans (feq c88).1) (rfl : 88 + 3 = 91) ?_
    refine g_aload X87 hx hby at_91 rfl rfl (rfl : 91 + 2 = 93) ?_
    refine g_iconst X87 hx hby (3 : Int32) at_93 (by decide) (rfl : 93 + 1 = 94) ?_
    refine g_lload X87 hx hby at_94 rfl (rfl : 94 + 2 = 96) ?_
    obtain ⟨_, _, ⟨T89, L89, k89, n89⟩, -, X89, ⟨Lc89, hQ89, l89, y89, z89⟩, st89⟩ := Jvm.LawKit.callS X87 hx (y := (⟨"com/example/markov_lumper/markovlumper/decimal/ScalingPowersPinLaw", "at", "([JIJ)Z"⟩ : MethodName)) hown (mvT hZ (hw _ (List.mem_of_getElem? (i := 5) rfl))) (mvT hZ (hw _ (List.mem_of_getElem? (i := 6) rfl))) (mvT hZ (hw _ (List.mem_of_getElem? (i := 7) rfl))) (mvT hZ (hw _ (List.mem_of_getElem? (i := 8) rfl))) (by decide) (backOf (W := 0) (rm_atL l Z a0 hw [] b_81 (3 : Int32) ((x0 * x0) * x0) (4 : Int32) kk_81 [(.long (1 : Int64)), (.long ((1 : Int64) * x0)), (.long (((1 : Int64) * x0) * x0)), (.long ((((1 : Int64) * x0) * x0) * x0))] ((((1 : Int64) * x0) * x0) * x0) T81.heap n0 Z81 q81_1 rfl (by decide) (by decide)) hZ (hw _ (List.mem_of_getElem? (i := 8) rfl)) (hw _ (List.mem_of_getElem? (i := 7) rfl)) (by decide) (by decide)) (g := (mkF m 96 #[.val (.long x0), .second, .val (.int x2), .val (.int (4 : Int32)), .val (.ref b_81), .val (.long x0), .second, .val (.long (x0 * x0)), .second, .val (.long ((x0 * x0) * x0)), .second, .val (.long ((x0 * x0) * (x0 * x0))), .second, .val (.long (((x0 * x0) * (x0 * x0)) * x0)), .second, .val (.long (((x0 * x0) * x0) * ((x0 * x0) * x0))), .second] [(.long ((x0 * x0) * x0)), (.int (3 : Int32)), (.ref b_81)])) rfl (by rw [hml]; rfl) (argsL := [(.ref b_81), (.int (3 : Int32)), (.long ((x0 * x0) * x0))]) (rest := []) (lenOf pd1 rfl) rfl (by show 2 * 0 + _ ≤ _; exact Nat.le_of_eq rfl) (hb hby at_96) (fun _ _ => ⟨rfl, eq87, (by decide : 1 + 0 ≤ _), (by decide : 4 + 0 ≤ _)⟩)
    dsimp only [Pt.U, Pt.locs, Pt.cells, Pt.slots] at X89 l89 y89 z89 st89 hQ89
    subst l89 y89 z89
    obtain ⟨rfl, N89q, eq89⟩ := hQ89
    have N89 := Fr.app N87 N89q
    refine own_go st89 ?_
    show own_Got p e below _ T89 (mkF m 99 #[.val (.long x0), .second, .val (.int x2), .val (.int (4 : Int32)), .val (.ref b_81), .val (.long x0), .second, .val (.long (x0 * x0)), .second, .val (.long ((x0 * x0) * x0)), .second, .val (.long ((x0 * x0) * (x0 * x0))), .second, .val (.long (((x0 * x0) * (x0 * x0)) * x0)), .second, .val (.long (((x0 * x0) * x0) * ((x0 * x0) * x0))), .second] [(.int (F_atL ((((1 : Int64) * x0) * x0) * x0) ((x0 * x0) * x0)))])
    have c90 : ¬ ((F_atL ((((1 : Int64) * x0) * x0) * x0) ((x0 * x0) * x0)) = (0 : Int32)) := own_atne (by simp only [Int64.one_mul, Int64.mul_assoc])
    refine g_ifF X89 hx hby at_99 ((if0 _ _).trans (feq c90).1) (rfl : 99 + 3 = 102) ?_
    refine g_aload X89 hx hby at_102 rfl rfl (rfl : 102 + 2 = 104) ?_
    refine g_iconst X89 hx hby (4 : Int32) at_104 (by decide) (rfl : 104 + 1 = 105) ?_
    refine g_lload X89 hx hby at_105 rfl (rfl : 105 + 2 = 107) ?_
    obtain ⟨_, _, ⟨T91, L91, k91, n91⟩, -, X91, ⟨Lc91, hQ91, l91, y91, z91⟩, st91⟩ := Jvm.LawKit.callS X89 hx (y := (⟨"com/example/markov_lumper/markovlumper/decimal/ScalingPowersPinLaw", "at", "([JIJ)Z"⟩ : MethodName)) hown (mvT hZ (hw _ (List.mem_of_getElem? (i := 5) rfl))) (mvT hZ (hw _ (List.mem_of_getElem? (i := 6) rfl))) (mvT hZ (hw _ (List.mem_of_getElem? (i := 7) rfl))) (mvT hZ (hw _ (List.mem_of_getElem? (i := 8) rfl))) (by decide) (backOf (W := 0) (rm_atG l Z a0 hw [] b_81 (4 : Int32) ((x0 * x0) * (x0 * x0)) (4 : Int32) kk_81 [(.long (1 : Int64)), (.long ((1 : Int64) * x0)), (.long (((1 : Int64) * x0) * x0)), (.long ((((1 : Int64) * x0) * x0) * x0))] T81.heap n0 Z81 q81_1 (by decide)) hZ (hw _ (List.mem_of_getElem? (i := 8) rfl)) (hw _ (List.mem_of_getElem? (i := 7) rfl)) (by decide) (by decide)) (g := (mkF m 107 #[.val (.long x0), .second, .val (.int x2), .val (.int (4 : Int32)), .val (.ref b_81), .val (.long x0), .second, .val (.long (x0 * x0)), .second, .val (.long ((x0 * x0) * x0)), .second, .val (.long ((x0 * x0) * (x0 * x0))), .second, .val (.long (((x0 * x0) * (x0 * x0)) * x0)), .second, .val (.long (((x0 * x0) * x0) * ((x0 * x0) * x0))), .second] [(.long ((x0 * x0) * (x0 * x0))), (.int (4 : Int32)), (.ref b_81)])) rfl (by rw [hml]; rfl) (argsL := [(.ref b_81), (.int (4 : Int32)), (.long ((x0 * x0) * (x0 * x0)))]) (rest := []) (lenOf pd1 rfl) rfl (by show 2 * 0 + _ ≤ _; exact Nat.le_of_eq rfl) (hb hby at_107) (fun _ _ => ⟨rfl, eq89, (by decide : 1 + 0 ≤ _), (by decide : 4 + 0 ≤ _)⟩)
    dsimp only [Pt.U, Pt.locs, Pt.cells, Pt.slots] at X91 l91 y91 z91 st91 hQ91
    subst l91 y91 z91
    obtain ⟨rfl, N91q, eq91⟩ := hQ91
    have N91 := Fr.app N89 N91q
    refine own_go st91 ?_
    show own_Got p e below _ T91 (mkF m 110 #[.val (.long x0), .second, .val (.int x2), .val (.int (4 : Int32)), .val (.ref b_81), .val (.long x0), .second, .val (.long (x0 * x0)), .second, .val (.long ((x0 * x0) * x0)), .second, .val (.long ((x0 * x0) * (x0 * x0))), .second, .val (.long (((x0 * x0) * (x0 * x0)) * x0)), .second, .val (.long (((x0 * x0) * x0) * ((x0 * x0) * x0))), .second] [(.int (1 : Int32))])
    refine g_ifF X91 hx hby at_110 ((if0 _ _).trans (feq (by decide : ¬ ((1 : Int32) = (0 : Int32)))).1) (rfl : 110 + 3 = 113) ?_
    refine g_aload X91 hx hby at_113 rfl rfl (rfl : 113 + 2 = 115) ?_
    refine g_iconst X91 hx hby (5 : Int32) at_115 (by decide) (rfl : 115 + 1 = 116) ?_
    refine g_lload X91 hx hby at_116 rfl (rfl : 116 + 2 = 118) ?_
    obtain ⟨_, _, ⟨T92, L92, k92, n92⟩, -, X92, ⟨Lc92, hQ92, l92, y92, z92⟩, st92⟩ := Jvm.LawKit.callS X91 hx (y := (⟨"com/example/markov_lumper/markovlumper/decimal/ScalingPowersPinLaw", "at", "([JIJ)Z"⟩ : MethodName)) hown (mvT hZ (hw _ (List.mem_of_getElem? (i := 5) rfl))) (mvT hZ (hw _ (List.mem_of_getElem? (i := 6) rfl))) (mvT hZ (hw _ (List.mem_of_getElem? (i := 7) rfl))) (mvT hZ (hw _ (List.mem_of_getElem? (i := 8) rfl))) (by decide) (backOf (W := 0) (rm_atG l Z a0 hw [] b_81 (5 : Int32) (((x0 * x0) * (x0 * x0)) * x0) (4 : Int32) kk_81 [(.long (1 : Int64)), (.long ((1 : Int64) * x0)), (.long (((1 : Int64) * x0) * x0)), (.long ((((1 : Int64) * x0) * x0) * x0))] T81.heap n0 Z81 q81_1 (by decide)) hZ (hw _ (List.mem_of_getElem? (i := 8) rfl)) (hw _ (List.mem_of_getElem? (i := 7) rfl)) (by decide) (by decide)) (g := (mkF m 118 #[.val (.long x0), .second, .val (.int x2), .val (.int (4 : Int32)), .val (.ref b_81), .val (.long x0), .second, .val (.long (x0 * x0)), .second, .val (.long ((x0 * x0) * x0)), .second, .val (.long ((x0 * x0) * (x0 * x0))), .second, .val (.long (((x0 * x0) * (x0 * x0)) * x0)), .second, .val (.long (((x0 * x0) * x0) * ((x0 * x0) * x0))), .second] [(.long (((x0 * x0) * (x0 * x0)) * x0)), (.int (5 : Int32)), (.ref b_81)])) rfl (by rw [hml]; rfl) (argsL := [(.ref b_81), (.int (5 : Int32)), (.long (((x0 * x0) * (x0 * x0)) * x0))]) (rest := []) (lenOf pd1 rfl) rfl (by show 2 * 0 + _ ≤ _; exact Nat.le_of_eq rfl) (hb hby at_118) (fun _ _ => ⟨rfl, eq91, (by decide : 1 + 0 ≤ _), (by decide : 4 + 0 ≤ _)⟩)
    dsimp only [Pt.U, Pt.locs, Pt.cells, Pt.slots] at X92 l92 y92 z92 st92 hQ92
    subst l92 y92 z92
    obtain ⟨rfl, N92q, eq92⟩ := hQ92
    have N92 := Fr.app N91 N92q
    refine own_go st92 ?_
    show own_Got p e below _ T92 (mkF m 121 #[.val (.long x0), .second, .val (.int x2), .val (.int (4 : Int32)), .val (.ref b_81), .val (.long x0), .second, .val (.long (x0 * x0)), .second, .val (.long ((x0 * x0) * x0)), .second, .val (.long ((x0 * x0) * (x0 * x0))), .second, .val (.long (((x0 * x0) * (x0 * x0)) * x0)), .second, .val (.long (((x0 * x0) * x0) * ((x0 * x0) * x0))), .second] [(.int (1 : Int32))])
    refine g_ifF X92 hx hby at_121 ((if0 _ _).trans (feq (by decide : ¬ ((1 : Int32) = (0 : Int32)))).1) (rfl : 121 + 3 = 124) ?_
    refine g_aload X92 hx hby at_124 rfl rfl (rfl : 124 + 2 = 126) ?_
    refine g_bipush X92 hx hby (6 : Int32) at_126 (by decide) (rfl : 126 + 2 = 128) ?_
    refine g_lload X92 hx hby at_128 rfl (rfl : 128 + 2 = 130) ?_
    obtain ⟨_, _, ⟨T93, L93, k93, n93⟩, -, X93, ⟨Lc93, hQ93, l93, y93, z93⟩, st93⟩ := Jvm.LawKit.callS X92 hx (y := (⟨"com/example/markov_lumper/markovlumper/decimal/ScalingPowersPinLaw", "at", "([JIJ)Z"⟩ : MethodName)) hown (mvT hZ (hw _ (List.mem_of_getElem? (i := 5) rfl))) (mvT hZ (hw _ (List.mem_of_getElem? (i := 6) rfl))) (mvT hZ (hw _ (List.mem_of_getElem? (i := 7) rfl))) (mvT hZ (hw _ (List.mem_of_getElem? (i := 8) rfl))) (by decide) (backOf (W := 0) (rm_atG l Z a0 hw [] b_81 (6 : Int32) (((x0 * x0) * x0) * ((x0 * x0) * x0)) (4 : Int32) kk_81 [(.long (1 : Int64)), (.long ((1 : Int64) * x0)), (.long (((1 : Int64) * x0) * x0)), (.long ((((1 : Int64) * x0) * x0) * x0))] T81.heap n0 Z81 q81_1 (by decide)) hZ (hw _ (List.mem_of_getElem? (i := 8) rfl)) (hw _ (List.mem_of_getElem? (i := 7) rfl)) (by decide) (by decide)) (g := (mkF m 130 #[.val (.long x0), .second, .val (.int x2), .val (.int (4 : Int32)), .val (.ref b_81), .val (.long x0), .second, .val (.long (x0 * x0)), .second, .val (.long ((x0 * x0) * x0)), .second, .val (.long ((x0 * x0) * (x0 * x0))), .second, .val (.long (((x0 * x0) * (x0 * x0)) * x0)), .second, .val (.long (((x0 * x0) * x0) * ((x0 * x0) * x0))), .second] [(.long (((x0 * x0) * x0) * ((x0 * x0) * x0))), (.int (6 : Int32)), (.ref b_81)])) rfl (by rw [hml]; rfl) (argsL := [(.ref b_81), (.int (6 : Int32)), (.long (((x0 * x0) * x0) * ((x0 * x0) * x0)))]) (rest := []) (lenOf pd1 rfl) rfl (by show 2 * 0 + _ ≤ _; exact Nat.le_of_eq rfl) (hb hby at_130) (fun _ _ => ⟨rfl, eq92, (by decide : 1 + 0 ≤ _), (by decide : 4 + 0 ≤ _)⟩)
    dsimp only [Pt.U, Pt.locs, Pt.cells, Pt.slots] at X93 l93 y93 z93 st93 hQ93
    subst l93 y93 z93
    obtain ⟨rfl, N93q, eq93⟩ := hQ93
    have N93 := Fr.app N92 N93q
    refine own_go st93 ?_
    show own_Got p e below _ T93 (mkF m 133 #[.val (.long x0), .second, .val (.int x2), .val (.int (4 : Int32)), .val (.ref b_81), .val (.long x0), .second, .val (.long (x0 * x0)), .second, .val (.long ((x0 * x0) * x0)), .second, .val (.long ((x0 * x0) * (x0 * x0))), .second, .val (.long (((x0 * x0) * (x0 * x0)) * x0)), .second, .val (.long (((x0 * x0) * x0) * ((x0 * x0) * x0))), .second] [(.int (1 : Int32))])
    refine g_ifF X93 hx hby at_133 ((if0 _ _).trans (feq (by decide : ¬ ((1 : Int32) = (0 : Int32)))).1) (rfl : 133 + 3 = 136) ?_
    refine g_iconst X93 hx hby (1 : Int32) at_136 (by decide) (rfl : 136 + 1 = 137) ?_
    refine g_goto X93 hx hby at_137 (by decide) (pc' := 141) (by decide) ?_
    refine own_retN X93 hx hby hlk (t := .boolean) hrt (by simp) at_141 (by decide) (by decide) ?_
    show Q_law Z x0 x2 h0 n0 _ T93.heap _
    exact ⟨rfl, N93⟩
  · rw [hk38]
    refine g_lloadN X0 hx hby at_5 rfl (rfl : 5 + 1 = 6) ?_
    refine g_iloadN X0 hx hby at_6 rfl (rfl : 6 + 1 = 7) ?_
    obtain ⟨_, _, ⟨T94, L94, k94, n94⟩, -, X94, ⟨Lc94, hQ94, l94, y94, z94⟩, st94⟩ := Jvm.LawKit.callS X0 hx (y := (⟨"com/example/markov_lumper/markovlumper/decimal/Scaling", "powers", "(JI)[J"⟩ : MethodName)) hown (mvT hZ (hw _ (List.mem_of_getElem? (i := 0) rfl))) (mvT hZ (hw _ (List.mem_of_getElem? (i := 1) rfl))) (mvT hZ (hw _ (List.mem_of_getElem? (i := 2) rfl))) (mvT hZ (hw _ (List.mem_of_getElem? (i := 3) rfl))) (by decide) (backOf (W := 0) (rm_pw5 l Z a0 hw [] x0 h0 n0 Z0) hZ (hw _ (List.mem_of_getElem? (i := 3) rfl)) (hw _ (List.mem_of_getElem? (i := 2) rfl)) (by decide) (by decide)) (g := (mkF m 7 #[.val (.long x0), .second, .val (.int x2), .val (.int (5 : Int32)), .unset, .unset, .unset, .unset, .unset, .unset, .unset, .unset, .unset, .unset, .unset, .unset, .unset] [(.int (5 : Int32)), (.long x0)])) rfl (by rw [hml]; rfl) (argsL := [(.long x0), (.int (5 : Int32))]) (rest := []) (lenOf pd0 rfl) rfl (by show 2 * 0 + _ ≤ _; exact Nat.le_of_eq rfl) (hb hby at_7) (fun _ _ => ⟨rfl, e0, (by decide : 0 + 1 ≤ _), (by decide : 0 + 5 ≤ _)⟩)
    dsimp only [Pt.U, Pt.locs, Pt.cells, Pt.slots] at X94 l94 y94 z94 st94 hQ94
    subst l94 y94 z94
    obtain ⟨b_94, kk_94, rfl, N94q, K94, q94_0, q94_1⟩ := hQ94
    have N94 := Fr.app N0 N94q
    have Z94 : n0 ≤ T94.heap.size := Nat.le_trans Z0 K94.1
    have ge95 : n0 ≤ b_94 := Nat.le_trans Z0 q94_0
    refine own_go st94 ?_
    show own_Got p e below _ T94 (mkF m 10 #[.val (.long x0), .second, .val (.int x2), .val (.int (5 : Int32)), .unset, .unset, .unset, .unset, .unset, .unset, .unset, .unset, .unset, .unset, .unset, .unset, .unset] [(.ref b_94)])
    refine g_astore X94 hx hby #[.val (.long x0), .second, .val (.int x2), .val (.int (5 : Int32)), .val (.ref b_94), .unset, .unset, .unset, .unset, .unset, .unset, .unset, .unset, .unset, .unset, .unset, .unset] at_10 rfl rfl (rfl : 10 + 2 = 12) ?_
    refine g_aload X94 hx hby at_12 rfl rfl (rfl : 12 + 2 = 14) ?_
    refine g_alen X94 hx hby hZ rfl q94_1 at_14 (rfl : 14 + 1 = 15) ?_
    refine g_iloadN X94 hx hby at_15 rfl (rfl : 15 + 1 = 16) ?_
    refine g_icT X94 hx hby at_16 (teq (by decide : (5 : Int32) = (5 : Int32))).1 (by decide) (pc' := 21) (by decide) ?_
    refine g_lloadN X94 hx hby at_21 rfl (rfl : 21 + 1 = 22) ?_
    refine g_lstore X94 hx hby #[.val (.long x0), .second, .val (.int x2), .val (.int (5 : Int32)), .val (.ref b_94), .val (.long x0), .second, .unset, .unset, .unset, .unset, .unset, .unset, .unset, .unset, .unset, .unset] at_22 rfl (rfl : 22 + 2 = 24) ?_
    refine g_lload X94 hx hby at_24 rfl (rfl : 24 + 2 = 26) ?_
    refine g_lload X94 hx hby at_26 rfl (rfl : 26 + 2 = 28) ?_
    refine g_lmul X94 hx hby at_28 (rfl : 28 + 1 = 29) ?_
    refine g_lstore X94 hx hby #[.val (.long x0), .second, .val (.int x2), .val (.int (5 : Int32)), .val (.ref b_94), .val (.long x0), .second, .val (.long (x0 * x0)), .second, .unset, .unset, .unset, .unset, .unset, .unset, .unset, .unset] at_29 rfl (rfl : 29 + 2 = 31) ?_
    refine g_lload X94 hx hby at_31 rfl (rfl : 31 + 2 = 33) ?_
    refine g_lload X94 hx hby at_33 rfl (rfl : 33 + 2 = 35) ?_
    refine g_lmul X94 hx hby at_35 (rfl : 35 + 1 = 36) ?_
    refine g_lstore X94 hx hby #[.val (.long x0), .second, .val (.int x2), .val (.int (5 : Int32)), .val (.ref b_94), .val (.long x0), .second, .val (.long (x0 * x0)), .second, .val (.long ((x0 * x0) * x0)), .second, .unset, .unset, .unset, .unset, .unset, .unset] at_36 rfl (rfl : 36 + 2 = 38) ?_
    refine g_lload X94 hx hby at_38 rfl (rfl : 38 + 2 = 40) ?_
    refine g_lload X94 hx hby at_40 rfl (rfl : 40 + 2 = 42) ?_
    refine g_lmul X94 hx hby at_42 (rfl : 42 + 1 = 43) ?_
    refine g_lstore X94 hx hby #[.val (.long x0), .second, .val (.int x2), .val (.int (5 : Int32)), .val (.ref b_94), .val (.long x0), .second, .val (.long (x0 * x0)), .second, .val (.long ((x0 * x0) * x0)), .second, .val (.long ((x0 * x0) * (x0 * x0))), .second, .unset, .unset, .unset, .unset] at_43 rfl (rfl : 43 + 2 = 45) ?_
    refine g_lload X94 hx hby at_45 rfl (rfl : 45 + 2 = 47) ?_
    refine g_lload X94 hx hby at_47 rfl (rfl : 47 + 2 = 49) ?_
    refine g_lmul X94 hx hby at_49 (rfl : 49 + 1 = 50) ?_
    refine g_lstore X94 hx hby #[.val (.long x0), .second, .val (.int x2), .val (.int (5 : Int32)), .val (.ref b_94), .val (.long x0), .second, .val (.long (x0 * x0)), .second, .val (.long ((x0 * x0) * x0)), .second, .val (.long ((x0 * x0) * (x0 * x0))), .second, .val (.long (((x0 * x0) * (x0 * x0)) * x0)), .second, .unset, .unset] at_50 rfl (rfl : 50 + 2 = 52) ?_
    refine g_lload X94 hx hby at_52 rfl (rfl : 52 + 2 = 54) ?_
    refine g_lload X94 hx hby at_54 rfl (rfl : 54 + 2 = 56) ?_
    refine g_lmul X94 hx hby at_56 (rfl : 56 + 1 = 57) ?_
    refine g_lstore X94 hx hby #[.val (.long x0), .second, .val (.int x2), .val (.int (5 : Int32)), .val (.ref b_94), .val (.long x0), .second, .val (.long (x0 * x0)), .second, .val (.long ((x0 * x0) * x0)), .second, .val (.long ((x0 * x0) * (x0 * x0))), .second, .val (.long (((x0 * x0) * (x0 * x0)) * x0)), .second, .val (.long (((x0 * x0) * x0) * ((x0 * x0) * x0))), .second] at_57 rfl (rfl : 57 + 2 = 59) ?_
    refine g_aload X94 hx hby at_59 rfl rfl (rfl : 59 + 2 = 61) ?_
    refine g_iconst X94 hx hby (0 : Int32) at_61 (by decide) (rfl : 61 + 1 = 62) ?_
    refine g_lconst X94 hx hby (1 : Int64) at_62 (by decide) (rfl : 62 + 1 = 63) ?_
    obtain ⟨_, _, ⟨T96, L96, k96, n96⟩, -, X96, ⟨Lc96, hQ96, l96, y96, z96⟩, st96⟩ := Jvm.LawKit.callS X94 hx (y := (⟨"com/example/markov_lumper/markovlumper/decimal/ScalingPowersPinLaw", "at", "([JIJ)Z"⟩ : MethodName)) hown (mvT hZ (hw _ (List.mem_of_getElem? (i := 5) rfl))) (mvT hZ (hw _ (List.mem_of_getElem? (i := 6) rfl))) (mvT hZ (hw _ (List.mem_of_getElem? (i := 7) rfl))) (mvT hZ (hw _ (List.mem_of_getElem? (i := 8) rfl))) (by decide) (backOf (W := 0) (rm_atL l Z a0 hw [] b_94 (0 : Int32) (1 : Int64) (5 : Int32) kk_94 [(.long (1 : Int64)), (.long ((1 : Int64) * x0)), (.long (((1 : Int64) * x0) * x0)), (.long ((((1 : Int64) * x0) * x0) * x0)), (.long (((((1 : Int64) * x0) * x0) * x0) * x0))] (1 : Int64) T94.heap n0 Z94 q94_1 rfl (by decide) (by decide)) hZ (hw _ (List.mem_of_getElem? (i := 8) rfl)) (hw _ (List.mem_of_getElem? (i := 7) rfl)) (by decide) (by decide)) (g := (mkF m 63 #[.val (.long x0), .second, .val (.int x2), .val (.int (5 : Int32)), .val (.ref b_94), .val (.long x0), .second, .val (.long (x0 * x0)), .second, .val (.long ((x0 * x0) * x0)), .second, .val (.long ((x0 * x0) * (x0 * x0))), .second, .val (.long (((x0 * x0) * (x0 * x0)) * x0)), .second, .val (.long (((x0 * x0) * x0) * ((x0 * x0) * x0))), .second] [(.long (1 : Int64)), (.int (0 : Int32)), (.ref b_94)])) rfl (by rw [hml]; rfl) (argsL := [(.ref b_94), (.int (0 : Int32)), (.long (1 : Int64))]) (rest := []) (lenOf pd1 rfl) rfl (by show 2 * 0 + _ ≤ _; exact Nat.le_of_eq rfl) (hb hby at_63) (fun _ _ => ⟨rfl, rfl, (by decide : 1 + 0 ≤ _), (by decide : 5 + 0 ≤ _)⟩)
    dsimp only [Pt.U, Pt.locs, Pt.cells, Pt.slots] at X96 l96 y96 z96 st96 hQ96
    subst l96 y96 z96
    obtain ⟨rfl, N96q, eq96⟩ := hQ96
    have N96 := Fr.app N94 N96q
    refine own_go st96 ?_
    show own_Got p e below _ T96 (mkF m 66 #[.val (.long x0), .second, .val (.int x2), .val (.int (5 : Int32)), .val (.ref b_94), .val (.long x0), .second, .val (.long (x0 * x0)), .second, .val (.long ((x0 * x0) * x0)), .second, .val (.long ((x0 * x0) * (x0 * x0))), .second, .val (.long (((x0 * x0) * (x0 * x0)) * x0)), .second, .val (.long (((x0 * x0) * x0) * ((x0 * x0) * x0))), .second] [(.int (F_atL (1 : Int64) (1 : Int64)))])
    have c97 : ¬ ((F_atL (1 : Int64) (1 : Int64)) = (0 : Int32)) := own_atne (by simp only [Int64.one_mul, Int64.mul_assoc])
    refine g_ifF X96 hx hby at_66 ((if0 _ _).trans (feq c97).1) (rfl : 66 + 3 = 69) ?_
    refine g_aload X96 hx hby at_69 rfl rfl (rfl : 69 + 2 = 71) ?_
    refine g_iconst X96 hx hby (1 : Int32) at_71 (by decide) (rfl : 71 + 1 = 72) ?_
    refine g_lload X96 hx hby at_72 rfl (rfl : 72 + 2 = 74) ?_
    obtain ⟨_, _, ⟨T98, L98, k98, n98⟩, -, X98, ⟨Lc98, hQ98, l98, y98, z98⟩, st98⟩ := Jvm.LawKit.callS X96 hx (y := (⟨"com/example/markov_lumper/markovlumper/decimal/ScalingPowersPinLaw", "at", "([JIJ)Z"⟩ : MethodName)) hown (mvT hZ (hw _ (List.mem_of_getElem? (i := 5) rfl))) (mvT hZ (hw _ (List.mem_of_getElem? (i := 6) rfl))) (mvT hZ (hw _ (List.mem_of_getElem? (i := 7) rfl))) (mvT hZ (hw _ (List.mem_of_getElem? (i := 8) rfl))) (by decide) (backOf (W := 0) (rm_atL l Z a0 hw [] b_94 (1 : Int32) x0 (5 : Int32) kk_94 [(.long (1 : Int64)), (.long ((1 : Int64) * x0)), (.long (((1 : Int64) * x0) * x0)), (.long ((((1 : Int64) * x0) * x0) * x0)), (.long (((((1 : Int64) * x0) * x0) * x0) * x0))] ((1 : Int64) * x0) T94.heap n0 Z94 q94_1 rfl (by decide) (by decide)) hZ (hw _ (List.mem_of_getElem? (i := 8) rfl)) (hw _ (List.mem_of_getElem? (i := 7) rfl)) (by decide) (by decide)) (g := (mkF m 74 #[.val (.long x0), .second, .val (.int x2), .val (.int (5 : Int32)), .val (.ref b_94), .val (.long x0), .second, .val (.long (x0 * x0)), .second, .val (.long ((x0 * x0) * x0)), .second, .val (.long ((x0 * x0) * (x0 * x0))), .second, .val (.long (((x0 * x0) * (x0 * x0)) * x0)), .second, .val (.long (((x0 * x0) * x0) * ((x0 * x0) * x0))), .second] [(.long x0), (.int (1 : Int32)), (.ref b_94)])) rfl (by rw [hml]; rfl) (argsL := [(.ref b_94), (.int (1 : Int32)), (.long x0)]) (rest := []) (lenOf pd1 rfl) rfl (by show 2 * 0 + _ ≤ _; exact Nat.le_of_eq rfl) (hb hby at_74) (fun _ _ => ⟨rfl, eq96, (by decide : 1 + 0 ≤ _), (by decide : 5 + 0 ≤ _)⟩)
    dsimp only [Pt.U, Pt.locs, Pt.cells, Pt.slots] at X98 l98 y98 z98 st98 hQ98
    subst l98 y98 z98
    obtain ⟨rfl, N98q, eq98⟩ := hQ98
    have N98 := Fr.app N96 N98q
    refine own_go st98 ?_
    show own_Got p e below _ T98 (mkF m 77 #[.val (.long x0), .second, .val (.int x2), .val (.int (5 : Int32)), .val (.ref b_94), .val (.long x0), .second, .val (.long (x0 * x0)), .second, .val (.long ((x0 * x0) * x0)), .second, .val (.long ((x0 * x0) * (x0 * x0))), .second, .val (.long (((x0 * x0) * (x0 * x0)) * x0)), .second, .val (.long (((x0 * x0) * x0) * ((x0 * x0) * x0))), .second] [(.int (F_atL ((1 : Int64) * x0) x0))])
    have c99 : ¬ ((F_atL ((1 : Int64) * x0) x0) = (0 : Int32)) := own_atne (by simp only [Int64.one_mul, Int64.mul_assoc])
    refine g_ifF X98 hx hby at_77 ((if0 _ _).trans (feq c99).1) (rfl : 77 + 3 = 80) ?_
    refine g_aload X98 hx hby at_80 rfl rfl (rfl : 80 + 2 = 82) ?_
    refine g_iconst X98 hx hby (2 : Int32) at_82 (by decide) (rfl : 82 + 1 = 83) ?_
    refine g_lload X98 hx hby at_83 rfl (rfl : 83 + 2 = 85) ?_
    obtain ⟨_, _, ⟨T100, L100, k100, n100⟩, -, X100, ⟨Lc100, hQ100, l100, y100, z100⟩, st100⟩ := Jvm.LawKit.callS X98 hx (y := (⟨"com/example/markov_lumper/markovlumper/decimal/ScalingPowersPinLaw", "at", "([JIJ)Z"⟩ : MethodName)) hown (mvT hZ (hw _ (List.mem_of_getElem? (i := 5) rfl))) (mvT hZ (hw _ (List.mem_of_getElem? (i := 6) rfl))) (mvT hZ (hw _ (List.mem_of_getElem? (i := 7) rfl))) (mvT hZ (hw _ (List.mem_of_getElem? (i := 8) rfl))) (by decide) (backOf (W := 0) (rm_atL l Z a0 hw [] b_94 (2 : Int32) (x0 * x0) (5 : Int32) kk_94 [(.long (1 : Int64)), (.long ((1 : Int64) * x0)), (.long (((1 : Int64) * x0) * x0)), (.long ((((1 : Int64) * x0) * x0) * x0)), (.long (((((1 : Int64) * x0) * x0) * x0) * x0))] (((1 : Int64) * x0) * x0) T94.heap n0 Z94 q94_1 rfl (by decide) (by decide)) hZ (hw _ (List.mem_of_getElem? (i := 8) rfl)) (hw _ (List.mem_of_getElem? (i := 7) rfl)) (by decide) (by decide)) (g := (mkF m 85 #[.val (.long x0), .second, .val (.int x2), .val (.int (5 : Int32)), .val (.ref b_94), .val (.long x0), .second, .val (.long (x0 * x0)), .second, .val (.long ((x0 * x0) * x0)), .second, .val (.long ((x0 * x0) * (x0 * x0))), .second, .val (.long (((x0 * x0) * (x0 * x0)) * x0)), .second, .val (.long (((x0 * x0) * x0) * ((x0 * x0) * x0))), .second] [(.long (x0 * x0)), (.int (2 : Int32)), (.ref b_94)])) rfl (by rw [hml]; rfl) (argsL := [(.ref b_94), (.int (2 : Int32)), (.long (x0 * x0))]) (rest := []) (lenOf pd1 rfl) rfl (by show 2 * 0 + _ ≤ _; exact Nat.le_of_eq rfl) (hb hby at_85) (fun _ _ => ⟨rfl, eq98, (by decide : 1 + 0 ≤ _), (by decide : 5 + 0 ≤ _)⟩)
    dsimp only [Pt.U, Pt.locs, Pt.cells, Pt.slots] at X100 l100 y100 z100 st100 hQ100
    subst l100 y100 z100
    obtain ⟨rfl, N100q, eq100⟩ := hQ100
    have N100 := Fr.app N98 N100q
    refine own_go st100 ?_
    show own_Got p e below _ T100 (mkF m 88 #[.val (.long x0), .second, .val (.int x2), .val (.int (5 : Int32)), .val (.ref b_94), .val (.long x0), .second, .val (.long (x0 * x0)), .second, .val (.long ((x0 * x0) * x0)), .second, .val (.long ((x0 * x0) * (x0 * x0))), .second, .val (.long (((x0 * x0) * (x0 * x0)) * x0)), .second, .val (.long (((x0 * x0) * x0) * ((x0 * x0) * x0))), .second] [(.int (F_atL (((1 : Int64) * x0) * x0) (x0 * x0)))])
    have c101 : ¬ ((F_atL (((1 : Int64) * x0) * x0) (x0 * x0)) = (0 : Int32)) := own_atne (by simp only [Int64.one_mul, Int64.mul_assoc])
    refine g_ifF X100 hx hby at_88 ((if0 _ _).trans (feq c101).1) (rfl : 88 + 3 = 91) ?_
    refine g_aload X100 hx hby at_91 rfl rfl (rfl : 91 + 2 = 93) ?_
    refine g_iconst X100 hx hby (3 : Int32) at_93 (by decide) (rfl : 93 + 1 = 94) ?_
    refine g_lload X100 hx hby at_94 rfl (rfl : 94 + 2 = 96) ?_
    obtain ⟨_, _, ⟨T102, L102, k102, n102⟩, -, X102, ⟨Lc102, hQ102, l102, y102, z102⟩, st102⟩ := Jvm.LawKit.callS X100 hx (y := (⟨"com/example/markov_lumper/markovlumper/decimal/ScalingPowersPinLaw", "at", "([JIJ)Z"⟩ : MethodName)) hown (mvT hZ (hw _ (List.mem_of_getElem? (i := 5) rfl))) (mvT hZ (hw _ (List.mem_of_getElem? (i := 6) rfl))) (mvT hZ (hw _ (List.mem_of_getElem? (i := 7) rfl))) (mvT hZ (hw _ (List.mem_of_getElem? (i := 8) rfl))) (by decide) (backOf (W := 0) (rm_atL l Z a0 hw [] b_94 (3 : Int32) ((x0 * x0) * x0) (5 : Int32) kk_94 [(.long (1 : Int64)), (.long ((1 : Int64) * x0)), (.long (((1 : Int64) * x0) * x0)), (.long ((((1 : Int64) * x0) * x0) * x0)), (.long (((((1 : Int64) * x0) * x0) * x0) * x0))] ((((1 : Int64) * x0) * x0) * x0) T94.heap n0 Z94 q94_1 rfl (by decide) (by decide)) hZ (hw _ (List.mem_of_getElem? (i := 8) rfl)) (hw _ (List.mem_of_getElem? (i := 7) rfl)) (by decide) (by decide)) (g := (mkF m 96 #[.val (.long x0), .second, .val (.int x2), .val (.int (5 : Int32)), .val (.ref b_94), .val (.long x0), .second, .val (.long (x0 * x0)), .second, .val (.long ((x0 * x0) * x0)), .second, .val (.long ((x0 * x0) * (x0 * x0))), .second, .val (.long (((x0 * x0) * (x0 * x0)) * x0)), .second, .val (.long (((x0 * x0) * x0) * ((x0 * x0) * x0))), .second] [(.long ((x0 * x0) * x0)), (.int (3 : Int32)), (.ref b_94)])) rfl (by rw [hml]; rfl) (argsL := [(.ref b_94), (.int (3 : Int32)), (.long ((x0 * x0) * x0))]) (rest := []) (lenOf pd1 rfl) rfl (by show 2 * 0 + _ ≤ _; exact Nat.le_of_eq rfl) (hb hby at_96) (fun _ _ => ⟨rfl, eq100, (by decide : 1 + 0 ≤ _), (by decide : 5 + 0 ≤ _)⟩)
    dsimp only [Pt.U, Pt.locs, Pt.cells, Pt.slots] at X102 l102 y102 z102 st102 hQ102
    subst l102 y102 z102
    obtain ⟨rfl, N102q, eq102⟩ := hQ102
    have N102 := Fr.app N100 N102q
    refine own_go st102 ?_
    show own_Got p e below _ T102 (mkF m 99 #[.val (.long x0), .second, .val (.int x2), .val (.int (5 : Int32)), .val (.ref b_94), .val (.long x0), .second, .val (.long (x0 * x0)), .second, .val (.long ((x0 * x0) * x0)), .second, .val (.long ((x0 * x0) * (x0 * x0))), .second, .val (.long (((x0 * x0) * (x0 * x0)) * x0)), .second, .val (.long (((x0 * x0) * x0) * ((x0 * x0) * x0))), .second] [(.int (F_atL ((((1 : Int64) * x0) * x0) * x0) ((x0 * x0) * x0)))])
    have c103 : ¬ ((F_atL ((((1 : Int64) * x0) * x0) * x0) ((x0 * x0) * x0)) = (0 : Int32)) := own_atne (by simp only [Int64.one_mul, Int64.mul_assoc])
    refine g_ifF X102 hx hby at_99 ((if0 _ _).trans (feq c103).1) (rfl : 99 + 3 = 102) ?_
    refine g_aload X102 hx hby at_102 rfl rfl (rfl : 102 + 2 = 104) ?_
    refine g_iconst X102 hx hby (4 : Int32) at_104 (by decide) (rfl : 104 + 1 = 105) ?_
    refine g_lload X102 hx hby at_105 rfl (rfl : 105 + 2 = 107) ?_
    obtain ⟨_, _, ⟨T104, L104, k104, n104⟩, -, X104, ⟨Lc104, hQ104, l104, y104, z104⟩, st104⟩ := Jvm.LawKit.callS X102 hx (y := (⟨"com/example/markov_lumper/markovlumper/decimal/ScalingPowersPinLaw", "at", "([JIJ)Z"⟩ : MethodName)) hown (mvT hZ (hw _ (List.mem_of_getElem? (i := 5) rfl))) (mvT hZ (hw _ (List.mem_of_getElem? (i := 6) rfl))) (mvT hZ (hw _ (List.mem_of_getElem? (i := 7) rfl))) (mvT hZ (hw _ (List.mem_of_getElem? (i := 8) rfl))) (by decide) (backOf (W := 0) (rm_atL l Z a0 hw [] b_94 (4 : Int32) ((x0 * x0) * (x0 * x0)) (5 : Int32) kk_94 [(.long (1 : Int64)), (.long ((1 : Int64) * x0)), (.long (((1 : Int64) * x0) * x0)), (.long ((((1 : Int64) * x0) * x0) * x0)), (.long (((((1 : Int64) * x0) * x0) * x0) * x0))] (((((1 : Int64) * x0) * x0) * x0) * x0) T94.heap n0 Z94 q94_1 rfl (by decide) (by decide)) hZ (hw _ (List.mem_of_getElem? (i := 8) rfl)) (hw _ (List.mem_of_getElem? (i := 7) rfl)) (by decide) (by decide)) (g := (mkF m 107 #[.val (.long x0), .second, .val (.int x2), .val (.int (5 : Int32)), .val (.ref b_94), .val (.long x0), .second, .val (.long (x0 * x0)), .second, .val (.long ((x0 * x0) * x0)), .second, .val (.long ((x0 * x0) * (x0 * x0))), .second, .val (.long (((x0 * x0) * (x0 * x0)) * x0)), .second, .val (.long (((x0 * x0) * x0) * ((x0 * x0) * x0))), .second] [(.long ((x0 * x0) * (x0 * x0))), (.int (4 : Int32)), (.ref b_94)])) rfl (by rw [hml]; rfl) (argsL := [(.ref b_94), (.int (4 : Int32)), (.long ((x0 * x0) * (x0 * x0)))]) (rest := []) (lenOf pd1 rfl) rfl (by show 2 * 0 + _ ≤ _; exact Nat.le_of_eq rfl) (hb hby at_107) (fun _ _ => ⟨rfl, eq102, (by decide : 1 + 0 ≤ _), (by decide : 5 + 0 ≤ _)⟩)
    dsimp only [Pt.U, Pt.locs, Pt.cells, Pt.slots] at X104 l104 y104 z104 st104 hQ104
    subst l104 y104 z104
    obtain ⟨rfl, N104q, eq104⟩ := hQ104
    have N104 := Fr.app N102 N104q
    refine own_go st104 ?_
    show own_Got p e below _ T104 (mkF m 110 #[.val (.long x0), .second, .val (.int x2), .val (.int (5 : Int32)), .val (.ref b_94), .val (.long x0), .second, .val (.long (x0 * x0)), .second, .val (.long ((x0 * x0) * x0)), .second, .val (.long ((x0 * x0) * (x0 * x0))), .second, .val (.long (((x0 * x0) * (x0 * x0)) * x0)), .second, .val (.long (((x0 * x0) * x0) * ((x0 * x0) * x0))), .second] [(.int (F_atL (((((1 : Int64) * x0) * x0) * x0) * x0) ((x0 * x0) * (x0 * x0))))])
    have c105 : ¬ ((F_atL (((((1 : Int64) * x0) * x0) * x0) * x0) ((x0 * x0) * (x0 * x0))) = (0 : Int32)) := own_atne (by simp only [Int64.one_mul, Int64.mul_assoc])
    refine g_ifF X104 hx hby at_110 ((if0 _ _).trans (feq c105).1) (rfl : 110 + 3 = 113) ?_
    refine g_aload X104 hx hby at_113 rfl rfl (rfl : 113 + 2 = 115) ?_
    refine g_iconst X104 hx hby (5 : Int32) at_115 (by decide) (rfl : 115 + 1 = 116) ?_
    refine g_lload X104 hx hby at_116 rfl (rfl : 116 + 2 = 118) ?_
    obtain ⟨_, _, ⟨T106, L106, k106, n106⟩, -, X106, ⟨Lc106, hQ106, l106, y106, z106⟩, st106⟩ := Jvm.LawKit.callS X104 hx (y := (⟨"com/example/markov_lumper/markovlumper/decimal/ScalingPowersPinLaw", "at", "([JIJ)Z"⟩ : MethodName)) hown (mvT hZ (hw _ (List.mem_of_getElem? (i := 5) rfl))) (mvT hZ (hw _ (List.mem_of_getElem? (i := 6) rfl))) (mvT hZ (hw _ (List.mem_of_getElem? (i := 7) rfl))) (mvT hZ (hw _ (List.mem_of_getElem? (i := 8) rfl))) (by decide) (backOf (W := 0) (rm_atG l Z a0 hw [] b_94 (5 : Int32) (((x0 * x0) * (x0 * x0)) * x0) (5 : Int32) kk_94 [(.long (1 : Int64)), (.long ((1 : Int64) * x0)), (.long (((1 : Int64) * x0) * x0)), (.long ((((1 : Int64) * x0) * x0) * x0)), (.long (((((1 : Int64) * x0) * x0) * x0) * x0))] T94.heap n0 Z94 q94_1 (by decide)) hZ (hw _ (List.mem_of_getElem? (i := 8) rfl)) (hw _ (List.mem_of_getElem? (i := 7) rfl)) (by decide) (by decide)) (g := (mkF m 118 #[.val (.long x0), .second, .val (.int x2), .val (.int (5 : Int32)), .val (.ref b_94), .val (.long x0), .second, .val (.long (x0 * x0)), .second, .val (.long ((x0 * x0) * x0)), .second, .val (.long ((x0 * x0) * (x0 * x0))), .second, .val (.long (((x0 * x0) * (x0 * x0)) * x0)), .second, .val (.long (((x0 * x0) * x0) * ((x0 * x0) * x0))), .second] [(.long (((x0 * x0) * (x0 * x0)) * x0)), (.int (5 : Int32)), (.ref b_94)])) rfl (by rw [hml]; rfl) (argsL := [(.ref b_94), (.int (5 : Int32)), (.long (((x0 * x0) * (x0 * x0)) * x0))]) (rest := []) (lenOf pd1 rfl) rfl (by show 2 * 0 + _ ≤ _; exact Nat.le_of_eq rfl) (hb hby at_118) (fun _ _ => ⟨rfl, eq104, (by decide : 1 + 0 ≤ _), (by decide : 5 + 0 ≤ _)⟩)
    dsimp only [Pt.U, Pt.locs, Pt.cells, Pt.slots] at X106 l106 y106 z106 st106 hQ106
    subst l106 y106 z106
    obtain ⟨rfl, N106q, eq106⟩ := hQ106
    have N106 := Fr.app N104 N106q
    refine own_go st106 ?_
    show own_Got p e below _ T106 (mkF m 121 #[.val (.long x0), .second, .val (.int x2), .val (.int (5 : Int32)), .val (.ref b_94), .val (.long x0), .second, .val (.long (x0 * x0)), .second, .val (.long ((x0 * x0) * x0)), .second, .val (.long ((x0 * x0) * (x0 * x0))), .second, .val (.long (((x0 * x0) * (x0 * x0)) * x0)), .second, .val (.long (((x0 * x0) * x0) * ((x0 * x0) * x0))), .second] [(.int (1 : Int32))])
    refine g_ifF X106 hx hby at_121 ((if0 _ _).trans (feq (by decide : ¬ ((1 : Int32) = (0 : Int32)))).1) (rfl : 121 + 3 = 124) ?_
    refine g_aload X106 hx hby at_124 rfl rfl (rfl : 124 + 2 = 126) ?_
    refine g_bipush X106 hx hby (6 : Int32) at_126 (by decide) (rfl : 126 + 2 = 128) ?_
    refine g_lload X106 hx hby at_128 rfl (rfl : 128 + 2 = 130) ?_
    obtain ⟨_, _, ⟨T107, L107, k107, n107⟩, -, X107, ⟨Lc107, hQ107, l107, y107, z107⟩, st107⟩ := Jvm.LawKit.callS X106 hx (y := (⟨"com/example/markov_lumper/markovlumper/decimal/ScalingPowersPinLaw", "at", "([JIJ)Z"⟩ : MethodName)) hown (mvT hZ (hw _ (List.mem_of_getElem? (i := 5) rfl))) (mvT hZ (hw _ (List.mem_of_getElem? (i := 6) rfl))) (mvT hZ (hw _ (List.mem_of_getElem? (i := 7) rfl))) (mvT hZ (hw _ (List.mem_of_getElem? (i := 8) rfl))) (by decide) (backOf (W := 0) (rm_atG l Z a0 hw [] b_94 (6 : Int32) (((x0 * x0) * x0) * ((x0 * x0) * x0)) (5 : Int32) kk_94 [(.long (1 : Int64)), (.long ((1 : Int64) * x0)), (.long (((1 : Int64) * x0) * x0)), (.long ((((1 : Int64) * x0) * x0) * x0)), (.long (((((1 : Int64) * x0) * x0) * x0) * x0))] T94.heap n0 Z94 q94_1 (by decide)) hZ (hw _ (List.mem_of_getElem? (i := 8) rfl)) (hw _ (List.mem_of_getElem? (i := 7) rfl)) (by decide) (by decide)) (g := (mkF m 130 #[.val (.long x0), .second, .val (.int x2), .val (.int (5 : Int32)), .val (.ref b_94), .val (.long x0), .second, .val (.long (x0 * x0)), .second, .val (.long ((x0 * x0) * x0)), .second, .val (.long ((x0 * x0) * (x0 * x0))), .second, .val (.long (((x0 * x0) * (x0 * x0)) * x0)), .second, .val (.long (((x0 * x0) * x0) * ((x0 * x0) * x0))), .second] [(.long (((x0 * x0) * x0) * ((x0 * x0) * x0))), (.int (6 : Int32)), (.ref b_94)])) rfl (by rw [hml]; rfl) (argsL := [(.ref b_94), (.int (6 : Int32)), (.long (((x0 * x0) * x0) * ((x0 * x0) * x0)))]) (rest := []) (lenOf pd1 rfl) rfl (by show 2 * 0 + _ ≤ _; exact Nat.le_of_eq rfl) (hb hby at_130) (fun _ _ => ⟨rfl, eq106, (by decide : 1 + 0 ≤ _), (by decide : 5 + 0 ≤ _)⟩)
    dsimp only [Pt.U, Pt.locs, Pt.cells, Pt.slots] at X107 l107 y107 z107 st107 hQ107
    subst l107 y107 z107
    obtain ⟨rfl, N107q, eq107⟩ := hQ107
    have N107 := Fr.app N106 N107q
    refine own_go st107 ?_
    show own_Got p e below _ T107 (mkF m 133 #[.val (.long x0), .second, .val (.int x2), .val (.int (5 : Int32)), .val (.ref b_94), .val (.long x0), .second, .val (.long (x0 * x0)), .second, .val (.long ((x0 * x0) * x0)), .second, .val (.long ((x0 * x0) * (x0 * x0))), .second, .val (.long (((x0 * x0) * (x0 * x0)) * x0)), .second, .val (.long (((x0 * x0) * x0) * ((x0 * x0) * x0))), .second] [(.int (1 : Int32))])
    refine g_ifF X107 hx hby at_133 ((if0 _ _).trans (feq (by decide : ¬ ((1 : Int32) = (0 : Int32)))).1) (rfl : 133 + 3 = 136) ?_
    refine g_iconst X107 hx hby (1 : Int32) at_136 (by decide) (rfl : 136 + 1 = 137) ?_
    refine g_goto X107 hx hby at_137 (by decide) (pc' := 141) (by decide) ?_
    refine own_retN X107 hx hby hlk (t := .boolean) hrt (by simp) at_141 (by decide) (by decide) ?_
    show Q_law Z x0 x2 h0 n0 _ T107.heap _
    exact ⟨rfl, N107⟩
  · rw [hk38]
    refine g_lloadN X0 hx hby at_5 rfl (rfl : 5 + 1 = 6) ?_
    refine g_iloadN X0 hx hby at_6 rfl (rfl : 6 + 1 = 7) ?_
    obtain ⟨_, _, ⟨T108, L108, k108, n108⟩, -, X108, ⟨Lc108, hQ108, l108, y108, z108⟩, st108⟩ := Jvm.LawKit.callS X0 hx (y := (⟨"com/example/markov_lumper/markovlumper/decimal/Scaling", "powers", "(JI)[J"⟩ : MethodName)) hown (mvT hZ (hw _ (List.mem_of_getElem? (i := 0) rfl))) (mvT hZ (hw _ (List.mem_of_getElem? (i := 1) rfl))) (mvT hZ (hw _ (List.mem_of_getElem? (i := 2) rfl))) (mvT hZ (hw _ (List.mem_of_getElem? (i := 3) rfl))) (by decide) (backOf (W := 0) (rm_pw6 l Z a0 hw [] x0 h0 n0 Z0) hZ (hw _ (List.mem_of_getElem? (i := 3) rfl)) (hw _ (List.mem_of_getElem? (i := 2) rfl)) (by decide) (by decide)) (g := (mkF m 7 #[.val (.long x0), .second, .val (.int x2), .val (.int (6 : Int32)), .unset, .unset, .unset, .unset, .unset, .unset, .unset, .unset, .unset, .unset, .unset, .unset, .unset] [(.int (6 : Int32)), (.long x0)])) rfl (by rw [hml]; rfl) (argsL := [(.long x0), (.int (6 : Int32))]) (rest := []) (lenOf pd0 rfl) rfl (by show 2 * 0 + _ ≤ _; exact Nat.le_of_eq rfl) (hb hby at_7) (fun _ _ => ⟨rfl, e0, (by decide : 0 + 1 ≤ _), (by decide : 0 + 6 ≤ _)⟩)
    dsimp only [Pt.U, Pt.locs, Pt.cells, Pt.slots] at X108 l108 y108 z108 st108 hQ108
    subst l108 y108 z108
    obtain ⟨b_108, kk_108, rfl, N108q, K108, q108_0, q108_1⟩ := hQ108
    have N108 := Fr.app N0 N108q
    have Z108 : n0 ≤ T108.heap.size := Nat.le_trans Z0 K108.1
    have ge109 : n0 ≤ b_108 := Nat.le_trans Z0 q108_0
    refine own_go st108 ?_
    show own_Got p e below _ T108 (mkF m 10 #[.val (.long x0), .second, .val (.int x2), .val (.int (6 : Int32)), .unset, .unset, .unset, .unset, .unset, .unset, .unset, .unset, .unset, .unset, .unset, .unset, .unset] [(.ref b_108)])
    refine g_astore X108 hx hby #[.val (.long x0), .second, .val (.int x2), .val (.int (6 : Int32)), .val (.ref b_108), .unset, .unset, .unset, .unset, .unset, .unset, .unset, .unset, .unset, .unset, .unset, .unset] at_10 rfl rfl (rfl : 10 + 2 = 12) ?_
    refine g_aload X108 hx hby at_12 rfl rfl (rfl : 12 + 2 = 14) ?_
    refine g_alen X108 hx hby hZ rfl q108_1 at_14 (rfl : 14 + 1 = 15) ?_
    refine g_iloadN X108 hx hby at_15 rfl (rfl : 15 + 1 = 16) ?_
    refine g_icT X108 hx hby at_16 (teq (by decide : (6 : Int32) = (6 : Int32))).1 (by decide) (pc' := 21) (by decide) ?_
    refine g_lloadN X108 hx hby at_21 rfl (rfl : 21 + 1 = 22) ?_
    refine g_lstore X108 hx hby #[.val (.long x0), .second, .val (.int x2), .val (.int (6 : Int32)), .val (.ref b_108), .val (.long x0), .second, .unset, .unset, .unset, .unset, .unset, .unset, .unset, .unset, .unset, .unset] at_22 rfl (rfl : 22 + 2 = 24) ?_
    refine g_lload X108 hx hby at_24 rfl (rfl : 24 + 2 = 26) ?_
    refine g_lload X108 hx hby at_26 rfl (rfl : 26 + 2 = 28) ?_
    refine g_lmul X108 hx hby at_28 (rfl : 28 + 1 = 29) ?_
    refine g_lstore X108 hx hby #[.val (.long x0), .second, .val (.int x2), .val (.int (6 : Int32)), .val (.ref b_108), .val (.long x0), .second, .val (.long (x0 * x0)), .second, .unset, .unset, .unset, .unset, .unset, .unset, .unset, .unset] at_29 rfl (rfl : 29 + 2 = 31) ?_
    refine g_lload X108 hx hby at_31 rfl (rfl : 31 + 2 = 33) ?_
    refine g_lload X108 hx hby at_33 rfl (rfl : 33 + 2 = 35) ?_
    refine g_lmul X108 hx hby at_35 (rfl : 35 + 1 = 36) ?_
    refine g_lstore X108 hx hby #[.val (.long x0), .second, .val (.int x2), .val (.int (6 : Int32)), .val (.ref b_108), .val (.long x0), .second, .val (.long (x0 * x0)), .second, .val (.long ((x0 * x0) * x0)), .second, .unset, .unset, .unset, .unset, .unset, .unset] at_36 rfl (rfl : 36 + 2 = 38) ?_
    refine g_lload X108 hx hby at_38 rfl (rfl : 38 + 2 = 40) ?_
    refine g_lload X108 hx hby at_40 rfl (rfl : 40 + 2 = 42) ?_
    refine g_lmul X108 hx hby at_42 (rfl : 42 + 1 = 43) ?_
    refine g_lstore X108 hx hby #[.val (.long x0), .second, .val (.int x2), .val (.int (6 : Int32)), .val (.ref b_108), .val (.long x0), .second, .val (.long (x0 * x0)), .second, .val (.long ((x0 * x0) * x0)), .second, .val (.long ((x0 * x0) * (x0 * x0))), .second, .unset, .unset, .unset, .unset] at_43 rfl (rfl : 43 + 2 = 45) ?_
    refine g_lload X108 hx hby at_45 rfl (rfl : 45 + 2 = 47) ?_
    refine g_lload X108 hx hby at_47 rfl (rfl : 47 + 2 = 49) ?_
    refine g_lmul X108 hx hby at_49 (rfl : 49 + 1 = 50) ?_
    refine g_lstore X108 hx hby #[.val (.long x0), .second, .val (.int x2), .val (.int (6 : Int32)), .val (.ref b_108), .val (.long x0), .second, .val (.long (x0 * x0)), .second, .val (.long ((x0 * x0) * x0)), .second, .val (.long ((x0 * x0) * (x0 * x0))), .second, .val (.long (((x0 * x0) * (x0 * x0)) * x0)), .second, .unset, .unset] at_50 rfl (rfl : 50 + 2 = 52) ?_
    refine g_lload X108 hx hby at_52 rfl (rfl : 52 + 2 = 54) ?_
    refine g_lload X108 hx hby at_54 rfl (rfl : 54 + 2 = 56) ?_
    refine g_lmul X108 hx hby at_56 (rfl : 56 + 1 = 57) ?_
    refine g_lstore X108 hx hby #[.val (.long x0), .second, .val (.int x2), .val (.int (6 : Int32)), .val (.ref b_108), .val (.long x0), .second, .val (.long (x0 * x0)), .second, .val (.long ((x0 * x0) * x0)), .second, .val (.long ((x0 * x0) * (x0 * x0))), .second, .val (.long (((x0 * x0) * (x0 * x0)) * x0)), .second, .val (.long (((x0 * x0) * x0) * ((x0 * x0) * x0))), .second] at_57 rfl (rfl : 57 + 2 = 59) ?_
    refine g_aload X108 hx hby at_59 rfl rfl (rfl : 59 + 2 = 61) ?_
    refine g_iconst X108 hx hby (0 : Int32) at_61 (by decide) (rfl : 61 + 1 = 62) ?_
    refine g_lconst X108 hx hby (1 : Int64) at_62 (by decide) (rfl : 62 + 1 = 63) ?_
    obtain ⟨_, _, ⟨T110, L110, k110, n110⟩, -, X110, ⟨Lc110, hQ110, l110, y110, z110⟩, st110⟩ := Jvm.LawKit.callS X108 hx (y := (⟨"com/example/markov_lumper/markovlumper/decimal/ScalingPowersPinLaw", "at", "([JIJ)Z"⟩ : MethodName)) hown (mvT hZ (hw _ (List.mem_of_getElem? (i := 5) rfl))) (mvT hZ (hw _ (List.mem_of_getElem? (i := 6) rfl))) (mvT hZ (hw _ (List.mem_of_getElem? (i := 7) rfl))) (mvT hZ (hw _ (List.mem_of_getElem? (i := 8) rfl))) (by decide) (backOf (W := 0) (rm_atL l Z a0 hw [] b_108 (0 : Int32) (1 : Int64) (6 : Int32) kk_108 [(.long (1 : Int64)), (.long ((1 : Int64) * x0)), (.long (((1 : Int64) * x0) * x0)), (.long ((((1 : Int64) * x0) * x0) * x0)), (.long (((((1 : Int64) * x0) * x0) * x0) * x0)), (.long ((((((1 : Int64) * x0) * x0) * x0) * x0) * x0))] (1 : Int64) T108.heap n0 Z108 q108_1 rfl (by decide) (by decide)) hZ (hw _ (List.mem_of_getElem? (i := 8) rfl)) (hw _ (List.mem_of_getElem? (i := 7) rfl)) (by decide) (by decide)) (g := (mkF m 63 #[.val (.long x0), .second, .val (.int x2), .val (.int (6 : Int32)), .val (.ref b_108), .val (.long x0), .second, .val (.long (x0 * x0)), .second, .val (.long ((x0 * x0) * x0)), .second, .val (.long ((x0 * x0) * (x0 * x0))), .second, .val (.long (((x0 * x0) * (x0 * x0)) * x0)), .second, .val (.long (((x0 * x0) * x0) * ((x0 * x0) * x0))), .second] [(.long (1 : Int64)), (.int (0 : Int32)), (.ref b_108)])) rfl (by rw [hml]; rfl) (argsL := [(.ref b_108), (.int (0 : Int32)), (.long (1 : Int64))]) (rest := []) (lenOf pd1 rfl) rfl (by show 2 * 0 + _ ≤ _; exact Nat.le_of_eq rfl) (hb hby at_63) (fun _ _ => ⟨rfl, rfl, (by decide : 1 + 0 ≤ _), (by decide : 6 + 0 ≤ _)⟩)
    dsimp only [Pt.U, Pt.locs, Pt.cells, Pt.slots] at X110 l110 y110 z110 st110 hQ110
    subst l110 y110 z110
    obtain ⟨rfl, N110q, eq110⟩ := hQ110
    have N110 := Fr.app N108 N110q
    refine own_go st110 ?_
    show own_Got p e below _ T110 (mkF m 66 #[.val (.long x0), .second, .val (.int x2), .val (.int (6 : Int32)), .val (.ref b_108), .val (.long x0), .second, .val (.long (x0 * x0)), .second, .val (.long ((x0 * x0) * x0)), .second, .val (.long ((x0 * x0) * (x0 * x0))), .second, .val (.long (((x0 * x0) * (x0 * x0)) * x0)), .second, .val (.long (((x0 * x0) * x0) * ((x0 * x0) * x0))), .second] [(.int (F_atL (1 : Int64) (1 : Int64)))])
    have c111 : ¬ ((F_atL (1 : Int64) (1 : Int64)) = (0 : Int32)) := own_atne (by simp only [Int64.one_mul, Int64.mul_assoc])
    refine g_ifF X110 hx hby at_66 ((if0 _ _).trans (feq c111).1) (rfl : 66 + 3 = 69) ?_
    refine g_aload X110 hx hby at_69 rfl rfl (rfl : 69 + 2 = 71) ?_
    refine g_iconst X110 hx hby (1 : Int32) at_71 (by decide) (rfl : 71 + 1 = 72) ?_
    refine g_lload X110 hx hby at_72 rfl (rfl : 72 + 2 = 74) ?_
    obtain ⟨_, _, ⟨T112, L112, k112, n112⟩, -, X112, ⟨Lc112, hQ112, l112, y112, z112⟩, st112⟩ := Jvm.LawKit.callS X110 hx (y := (⟨"com/example/markov_lumper/markovlumper/decimal/ScalingPowersPinLaw", "at", "([JIJ)Z"⟩ : MethodName)) hown (mvT hZ (hw _ (List.mem_of_getElem? (i := 5) rfl))) (mvT hZ (hw _ (List.mem_of_getElem? (i := 6) rfl))) (mvT hZ (hw _ (List.mem_of_getElem? (i := 7) rfl))) (mvT hZ (hw _ (List.mem_of_getElem? (i := 8) rfl))) (by decide) (backOf (W := 0) (rm_atL l Z a0 hw [] b_108 (1 : Int32) x0 (6 : Int32) kk_108 [(.long (1 : Int64)), (.long ((1 : Int64) * x0)), (.long (((1 : Int64) * x0) * x0)), (.long ((((1 : Int64) * x0) * x0) * x0)), (.long (((((1 : Int64) * x0) * x0) * x0) * x0)), (.long ((((((1 : Int64) * x0) * x0) * x0) * x0) * x0))] ((1 : Int64) * x0) T108.heap n0 Z108 q108_1 rfl (by decide) (by decide)) hZ (hw _ (List.mem_of_getElem? (i := 8) rfl)) (hw _ (List.mem_of_getElem? (i := 7) rfl)) (by decide) (by decide)) (g := (mkF m 74 #[.val (.long x0), .second, .val (.int x2), .val (.int (6 : Int32)), .val (.ref b_108), .val (.long x0), .second, .val (.long (x0 * x0)), .second, .val (.long ((x0 * x0) * x0)), .second, .val (.long ((x0 * x0) * (x0 * x0))), .second, .val (.long (((x0 * x0) * (x0 * x0)) * x0)), .second, .val (.long (((x0 * x0) * x0) * ((x0 * x0) * x0))), .second] [(.long x0), (.int (1 : Int32)), (.ref b_108)])) rfl (by rw [hml]; rfl) (argsL := [(.ref b_108), (.int (1 : Int32)), (.long x0)]) (rest := []) (lenOf pd1 rfl) rfl (by show 2 * 0 + _ ≤ _; exact Nat.le_of_eq rfl) (hb hby at_74) (fun _ _ => ⟨rfl, eq110, (by decide : 1 + 0 ≤ _), (by decide : 6 + 0 ≤ _)⟩)
    dsimp only [Pt.U, Pt.locs, Pt.cells, Pt.slots] at X112 l112 y112 z112 st112 hQ112
    subst l112 y112 z112
    obtain ⟨rfl, N112q, eq112⟩ := hQ112
    have N112 := Fr.app N110 N112q
    refine own_go st112 ?_
    show own_Got p e below _ T112 (mkF m 77 #[.val (.long x0), .second, .val (.int x2), .val (.int (6 : Int32)), .val (.ref b_108), .val (.long x0), .second, .val (.long (x0 * x0)), .second, .val (.long ((x0 * x0) * x0)), .second, .val (.long ((x0 * x0) * (x0 * x0))), .second, .val (.long (((x0 * x0) * (x0 * x0)) * x0)), .second, .val (.long (((x0 * x0) * x0) * ((x0 * x0) * x0))), .second] [(.int (F_atL ((1 : Int64) * x0) x0))])
    have c113 : ¬ ((F_atL ((1 : Int64) * x0) x0) = (0 : Int32)) := own_atne (by simp only [Int64.one_mul, Int64.mul_assoc])
    refine g_ifF X112 hx hby at_77 ((if0 _ _).trans (feq c113).1) (rfl : 77 + 3 = 80) ?_
    refine g_aload X112 hx hby at_80 rfl rfl (rfl : 80 + 2 = 82) ?_
    refine g_iconst X112 hx hby (2 : Int32) at_82 (by decide) (rfl : 82 + 1 = 83) ?_
    refine g_lload X112 hx hby at_83 rfl (rfl : 83 + 2 = 85) ?_
    obtain ⟨_, _, ⟨T114, L114, k114, n114⟩, -, X114, ⟨Lc114, hQ114, l114, y114, z114⟩, st114⟩ := Jvm.LawKit.callS X112 hx (y := (⟨"com/example/markov_lumper/markovlumper/decimal/ScalingPowersPinLaw", "at", "([JIJ)Z"⟩ : MethodName)) hown (mvT hZ (hw _ (List.mem_of_getElem? (i := 5) rfl))) (mvT hZ (hw _ (List.mem_of_getElem? (i := 6) rfl))) (mvT hZ (hw _ (List.mem_of_getElem? (i := 7) rfl))) (mvT hZ (hw _ (List.mem_of_getElem? (i := 8) rfl))) (by decide) (backOf (W := 0) (rm_atL l Z a0 hw [] b_108 (2 : Int32) (x0 * x0) (6 : Int32) kk_108 [(.long (1 : Int64)), (.long ((1 : Int64) * x0)), (.long (((1 : Int64) * x0) * x0)), (.long ((((1 : Int64) * x0) * x0) * x0)), (.long (((((1 : Int64) * x0) * x0) * x0) * x0)), (.long ((((((1 : Int64) * x0) * x0) * x0) * x0) * x0))] (((1 : Int64) * x0) * x0) T108.heap n0 Z108 q108_1 rfl (by decide) (by decide)) hZ (hw _ (List.mem_of_getElem? (i := 8) rfl)) (hw _ (List.mem_of_getElem? (i := 7) rfl)) (by decide) (by decide)) (g := (mkF m 85 #[.val (.long x0), .second, .val (.int x2), .val (.int (6 : Int32)), .val (.ref b_108), .val (.long x0), .second, .val (.long (x0 * x0)), .second, .val (.long ((x0 * x0) * x0)), .second, .val (.long ((x0 * x0) * (x0 * x0))), .second, .val (.long (((x0 * x0) * (x0 * x0)) * x0)), .second, .val (.long (((x0 * x0) * x0) * ((x0 * x0) * x0))), .second] [(.long (x0 * x0)), (.int (2 : Int32)), (.ref b_108)])) rfl (by rw [hml]; rfl) (argsL := [(.ref b_108), (.int (2 : Int32)), (.long (x0 * x0))]) (rest := []) (lenOf pd1 rfl) rfl (by show 2 * 0 + _ ≤ _; exact Nat.le_of_eq rfl) (hb hby at_85) (fun _ _ => ⟨rfl, eq112, (by decide : 1 + 0 ≤ _), (by decide : 6 + 0 ≤ _)⟩)
    dsimp only [Pt.U, Pt.locs, Pt.cells, Pt.slots] at X114 l114 y114 z114 st114 hQ114
    subst l114 y114 z114
    obtain ⟨rfl, N114q, eq114⟩ := hQ114
    have N114 := Fr.app N112 N114q
    refine own_go st114 ?_
    show own_Got p e below _ T114 (mkF m 88 #[.val (.long x0), .second, .val (.int x2), .val (.int (6 : Int32)), .val (.ref b_108), .val (.long x0), .second, .val (.long (x0 * x0)), .second, .val (.long ((x0 * x0) * x0)), .second, .val (.long ((x0 * x0) * (x0 * x0))), .second, .val (.long (((x0 * x0) * (x0 * x0)) * x0)), .second, .val (.long (((x0 * x0) * x0) * ((x0 * x0) * x0))), .second] [(.int (F_atL (((1 : Int64) * x0) * x0) (x0 * x0)))])
    have c115 : ¬ ((F_atL (((1 : Int64) * x0) * x0) (x0 * x0)) = (0 : Int32)) := own_atne (by simp only [Int64.one_mul, Int64.mul_assoc])
    refine g_ifF X114 hx hby at_88 ((if0 _ _).trans (feq c115).1) (rfl : 88 + 3 = 91) ?_
    refine g_aload X114 hx hby at_91 rfl rfl (rfl : 91 + 2 = 93) ?_
    refine g_iconst X114 hx hby (3 : Int32) at_93 (by decide) (rfl : 93 + 1 = 94) ?_
    refine g_lload X114 hx hby at_94 rfl (rfl : 94 + 2 = 96) ?_
    obtain ⟨_, _, ⟨T116, L116, k116, n116⟩, -, X116, ⟨Lc116, hQ116, l116, y116, z116⟩, st116⟩ := Jvm.LawKit.callS X114 hx (y := (⟨"com/example/markov_lumper/markovlumper/decimal/ScalingPowersPinLaw", "at", "([JIJ)Z"⟩ : MethodName)) hown (mvT hZ (hw _ (List.mem_of_getElem? (i := 5) rfl))) (mvT hZ (hw _ (List.mem_of_getElem? (i := 6) rfl))) (mvT hZ (hw _ (List.mem_of_getElem? (i := 7) rfl))) (mvT hZ (hw _ (List.mem_of_getElem? (i := 8) rfl))) (by decide) (backOf (W := 0) (rm_atL l Z a0 hw [] b_108 (3 : Int32) ((x0 * x0) * x0) (6 : Int32) kk_108 [(.long (1 : Int64)), (.long ((1 : Int64) * x0)), (.long (((1 : Int64) * x0) * x0)), (.long ((((1 : Int64) * x0) * x0) * x0)), (.long (((((1 : Int64) * x0) * x0) * x0) * x0)), (.long ((((((1 : Int64) * x0) * x0) * x0) * x0) * x0))] ((((1 : Int64) * x0) * x0) * x0) T108.heap n0 Z108 q108_1 rfl (by decide) (by decide)) hZ (hw _ (List.mem_of_getElem? (i := 8) rfl)) (hw _ (List.mem_of_getElem? (i := 7) rfl)) (by decide) (by decide)) (g := (mkF m 96 #[.val (.long x0), .second, .val (.int x2), .val (.int (6 : Int32)), .val (.ref b_108), .val (.long x0), .second, .val (.long (x0 * x0)), .second, .val (.long ((x0 * x0) * x0)), .second, .val (.long ((x0 * x0) * (x0 * x0))), .second, .val (.long (((x0 * x0) * (x0 * x0)) * x0)), .second, .val (.long (((x0 * x0) * x0) * ((x0 * x0) * x0))), .second] [(.long ((x0 * x0) * x0)), (.int (3 : Int32)), (.ref b_108)])) rfl (by rw [hml]; rfl) (argsL := [(.ref b_108), (.int (3 : Int32)), (.long ((x0 * x0) * x0))]) (rest := []) (lenOf pd1 rfl) rfl (by show 2 * 0 + _ ≤ _; exact Nat.le_of_eq rfl) (hb hby at_96) (fun _ _ => ⟨rfl, eq114, (by decide : 1 + 0 ≤ _), (by decide : 6 + 0 ≤ _)⟩)
    dsimp only [Pt.U, Pt.locs, Pt.cells, Pt.slots] at X116 l116 y116 z116 st116 hQ116
    subst l116 y116 z116
    obtain ⟨rfl, N116q, eq116⟩ := hQ116
    have N116 := Fr.app N114 N116q
    refine own_go st116 ?_
    show own_Got p e below _ T116 (mkF m 99 #[.val (.long x0), .second, .val (.int x2), .val (.int (6 : Int32)), .val (.ref b_108), .val (.long x0), .second, .val (.long (x0 * x0)), .second, .val (.long ((x0 * x0) * x0)), .second, .val (.long ((x0 * x0) * (x0 * x0))), .second, .val (.long (((x0 * x0) * (x0 * x0)) * x0)), .second, .val (.long (((x0 * x0) * x0) * ((x0 * x0) * x0))), .second] [(.int (F_atL ((((1 : Int64) * x0) * x0) * x0) ((x0 * x0) * x0)))])
    have c117 : ¬ ((F_atL ((((1 : Int64) * x0) * x0) * x0) ((x0 * x0) * x0)) = (0 : Int32)) := own_atne (by simp only [Int64.one_mul, Int64.mul_assoc])
    refine g_ifF X116 hx hby at_99 ((if0 _ _).trans (feq c117).1) (rfl : 99 + 3 = 102) ?_
    refine g_aload X116 hx hby at_102 rfl rfl (rfl : 102 + 2 = 104) ?_
    refine g_iconst X116 hx hby (4 : Int32) at_104 (by decide) (rfl : 104 + 1 = 105) ?_
    refine g_lload X116 hx hby at_105 rfl (rfl : 105 + 2 = 107) ?_
    obtain ⟨_, _, ⟨T118, L118, k118, n118⟩, -, X118, ⟨Lc118, hQ118, l118, y118, z118⟩, st118⟩ := Jvm.LawKit.callS X116 hx (y := (⟨"com/example/markov_lumper/markovlumper/decimal/ScalingPowersPinLaw", "at", "([JIJ)Z"⟩ : MethodName)) hown (mvT hZ (hw _ (List.mem_of_getElem? (i := 5) rfl))) (mvT hZ (hw _ (List.mem_of_getElem? (i := 6) rfl))) (mvT hZ (hw _ (List.mem_of_getElem? (i := 7) rfl))) (mvT hZ (hw _ (List.mem_of_getElem? (i := 8) rfl))) (by decide) (backOf (W := 0) (rm_atL l Z a0 hw [] b_108 (4 : Int32) ((x0 * x0) * (x0 * x0)) (6 : Int32) kk_108 [(.long (1 : Int64)), (.long ((1 : Int64) * x0)), (.long (((1 : Int64) * x0) * x0)), (.long ((((1 : Int64) * x0) * x0) * x0)), (.long (((((1 : Int64) * x0) * x0) * x0) * x0)), (.long ((((((1 : Int64) * x0) * x0) * x0) * x0) * x0))] (((((1 : Int64) * x0) * x0) * x0) * x0) T108.heap n0 Z108 q108_1 rfl (by decide) (by decide)) hZ (hw _ (List.mem_of_getElem? (i := 8) rfl)) (hw _ (List.mem_of_getElem? (i := 7) rfl)) (by decide) (by decide)) (g := (mkF m 107 #[.val (.long x0), .second, .val (.int x2), .val (.int (6 : Int32)), .val (.ref b_108), .val (.long x0), .second, .val (.long (x0 * x0)), .second, .val (.long ((x0 * x0) * x0)), .second, .val (.long ((x0 * x0) * (x0 * x0))), .second, .val (.long (((x0 * x0) * (x0 * x0)) * x0)), .second, .val (.long (((x0 * x0) * x0) * ((x0 * x0) * x0))), .second] [(.long ((x0 * x0) * (x0 * x0))), (.int (4 : Int32)), (.ref b_108)])) rfl (by rw [hml]; rfl) (argsL := [(.ref b_108), (.int (4 : Int32)), (.long ((x0 * x0) * (x0 * x0)))]) (rest := []) (lenOf pd1 rfl) rfl (by show 2 * 0 + _ ≤ _; exact Nat.le_of_eq rfl) (hb hby at_107) (fun _ _ => ⟨rfl, eq116, (by decide : 1 + 0 ≤ _), (by decide : 6 + 0 ≤ _)⟩)
    dsimp only [Pt.U, Pt.locs, Pt.cells, Pt.slots] at X118 l118 y118 z118 st118 hQ118
    subst l118 y118 z118
    obtain ⟨rfl, N118q, eq118⟩ := hQ118
    have N118 := Fr.app N116 N118q
    refine own_go st118 ?_
    show own_Got p e below _ T118 (mkF m 110 #[.val (.long x0), .second, .val (.int x2), .val (.int (6 : Int32)), .val (.ref b_108), .val (.long x0), .second, .val (.long (x0 * x0)), .second, .val (.long ((x0 * x0) * x0)), .second, .val (.long ((x0 * x0) * (x0 * x0))), .second, .val (.long (((x0 * x0) * (x0 * x0)) * x0)), .second, .val (.long (((x0 * x0) * x0) * ((x0 * x0) * x0))), .second] [(.int (F_atL (((((1 : Int64) * x0) * x0) * x0) * x0) ((x0 * x0) * (x0 * x0))))])
    have c119 : ¬ ((F_atL (((((1 : Int64) * x0) * x0) * x0) * x0) ((x0 * x0) * (x0 * x0))) = (0 : Int32)) := own_atne (by simp only [Int64.one_mul, Int64.mul_assoc])
    refine g_ifF X118 hx hby at_110 ((if0 _ _).trans (feq c119).1) (rfl : 110 + 3 = 113) ?_
    refine g_aload X118 hx hby at_113 rfl rfl (rfl : 113 + 2 = 115) ?_
    refine g_iconst X118 hx hby (5 : Int32) at_115 (by decide) (rfl : 115 + 1 = 116) ?_
    refine g_lload X118 hx hby at_116 rfl (rfl : 116 + 2 = 118) ?_
    obtain ⟨_, _, ⟨T120, L120, k120, n120⟩, -, X120, ⟨Lc120, hQ120, l120, y120, z120⟩, st120⟩ := Jvm.LawKit.callS X118 hx (y := (⟨"com/example/markov_lumper/markovlumper/decimal/ScalingPowersPinLaw", "at", "([JIJ)Z"⟩ : MethodName)) hown (mvT hZ (hw _ (List.mem_of_getElem? (i := 5) rfl))) (mvT hZ (hw _ (List.mem_of_getElem? (i := 6) rfl))) (mvT hZ (hw _ (List.mem_of_getElem? (i := 7) rfl))) (mvT hZ (hw _ (List.mem_of_getElem? (i := 8) rfl))) (by decide) (backOf (W := 0) (rm_atL l Z a0 hw [] b_108 (5 : Int32) (((x0 * x0) * (x0 * x0)) * x0) (6 : Int32) kk_108 [(.long (1 : Int64)), (.long ((1 : Int64) * x0)), (.long (((1 : Int64) * x0) * x0)), (.long ((((1 : Int64) * x0) * x0) * x0)), (.long (((((1 : Int64) * x0) * x0) * x0) * x0)), (.long ((((((1 : Int64) * x0) * x0) * x0) * x0) * x0))] ((((((1 : Int64) * x0) * x0) * x0) * x0) * x0) T108.heap n0 Z108 q108_1 rfl (by decide) (by decide)) hZ (hw _ (List.mem_of_getElem? (i := 8) rfl)) (hw _ (List.mem_of_getElem? (i := 7) rfl)) (by decide) (by decide)) (g := (mkF m 118 #[.val (.long x0), .second, .val (.int x2), .val (.int (6 : Int32)), .val (.ref b_108), .val (.long x0), .second, .val (.long (x0 * x0)), .second, .val (.long ((x0 * x0) * x0)), .second, .val (.long ((x0 * x0) * (x0 * x0))), .second, .val (.long (((x0 * x0) * (x0 * x0)) * x0)), .second, .val (.long (((x0 * x0) * x0) * ((x0 * x0) * x0))), .second] [(.long (((x0 * x0) * (x0 * x0)) * x0)), (.int (5 : Int32)), (.ref b_108)])) rfl (by rw [hml]; rfl) (argsL := [(.ref b_108), (.int (5 : Int32)), (.long (((x0 * x0) * (x0 * x0)) * x0))]) (rest := []) (lenOf pd1 rfl) rfl (by show 2 * 0 + _ ≤ _; exact Nat.le_of_eq rfl) (hb hby at_118) (fun _ _ => ⟨rfl, eq118, (by decide : 1 + 0 ≤ _), (by decide : 6 + 0 ≤ _)⟩)
    dsimp only [Pt.U, Pt.locs, Pt.cells, Pt.slots] at X120 l120 y120 z120 st120 hQ120
    subst l120 y120 z120
    obtain ⟨rfl, N120q, eq120⟩ := hQ120
    have N120 := Fr.app N118 N120q
    refine own_go st120 ?_
    show own_Got p e below _ T120 (mkF m 121 #[.val (.long x0), .second, .val (.int x2), .val (.int (6 : Int32)), .val (.ref b_108), .val (.long x0), .second, .val (.long (x0 * x0)), .second, .val (.long ((x0 * x0) * x0)), .second, .val (.long ((x0 * x0) * (x0 * x0))), .second, .val (.long (((x0 * x0) * (x0 * x0)) * x0)), .second, .val (.long (((x0 * x0) * x0) * ((x0 * x0) * x0))), .second] [(.int (F_atL ((((((1 : Int64) * x0) * x0) * x0) * x0) * x0) (((x0 * x0) * (x0 * x0)) * x0)))])
    have c121 : ¬ ((F_atL ((((((1 : Int64) * x0) * x0) * x0) * x0) * x0) (((x0 * x0) * (x0 * x0)) * x0)) = (0 : Int32)) := own_atne (by simp only [Int64.one_mul, Int64.mul_assoc])
    refine g_ifF X120 hx hby at_121 ((if0 _ _).trans (feq c121).1) (rfl : 121 + 3 = 124) ?_
    refine g_aload X120 hx hby at_124 rfl rfl (rfl : 124 + 2 = 126) ?_
    refine g_bipush X120 hx hby (6 : Int32) at_126 (by decide) (rfl : 126 + 2 = 128) ?_
    refine g_lload X120 hx hby at_128 rfl (rfl : 128 + 2 = 130) ?_
    obtain ⟨_, _, ⟨T122, L122, k122, n122⟩, -, X122, ⟨Lc122, hQ122, l122, y122, z122⟩, st122⟩ := Jvm.LawKit.callS X120 hx (y := (⟨"com/example/markov_lumper/markovlumper/decimal/ScalingPowersPinLaw", "at", "([JIJ)Z"⟩ : MethodName)) hown (mvT hZ (hw _ (List.mem_of_getElem? (i := 5) rfl))) (mvT hZ (hw _ (List.mem_of_getElem? (i := 6) rfl))) (mvT hZ (hw _ (List.mem_of_getElem? (i := 7) rfl))) (mvT hZ (hw _ (List.mem_of_getElem? (i := 8) rfl))) (by decide) (backOf (W := 0) (rm_atG l Z a0 hw [] b_108 (6 : Int32) (((x0 * x0) * x0) * ((x0 * x0) * x0)) (6 : Int32) kk_108 [(.long (1 : Int64)), (.long ((1 : Int64) * x0)), (.long (((1 : Int64) * x0) * x0)), (.long ((((1 : Int64) * x0) * x0) * x0)), (.long (((((1 : Int64) * x0) * x0) * x0) * x0)), (.long ((((((1 : Int64) * x0) * x0) * x0) * x0) * x0))] T108.heap n0 Z108 q108_1 (by decide)) hZ (hw _ (List.mem_of_getElem? (i := 8) rfl)) (hw _ (List.mem_of_getElem? (i := 7) rfl)) (by decide) (by decide)) (g := (mkF m 130 #[.val (.long x0), .second, .val (.int x2), .val (.int (6 : Int32)), .val (.ref b_108), .val (.long x0), .second, .val (.long (x0 * x0)), .second, .val (.long ((x0 * x0) * x0)), .second, .val (.long ((x0 * x0) * (x0 * x0))), .second, .val (.long (((x0 * x0) * (x0 * x0)) * x0)), .second, .val (.long (((x0 * x0) * x0) * ((x0 * x0) * x0))), .second] [(.long (((x0 * x0) * x0) * ((x0 * x0) * x0))), (.int (6 : Int32)), (.ref b_108)])) rfl (by rw [hml]; rfl) (argsL := [(.ref b_108), (.int (6 : Int32)), (.long (((x0 * x0) * x0) * ((x0 * x0) * x0)))]) (rest := []) (lenOf pd1 rfl) rfl (by show 2 * 0 + _ ≤ _; exact Nat.le_of_eq rfl) (hb hby at_130) (fun _ _ => ⟨rfl, eq120, (by decide : 1 + 0 ≤ _), (by decide : 6 + 0 ≤ _)⟩)
    dsimp only [Pt.U, Pt.locs, Pt.cells, Pt.slots] at X122 l122 y122 z122 st122 hQ122
    subst l122 y122 z122
    obtain ⟨rfl, N122q, eq122⟩ := hQ122
    have N122 := Fr.app N120 N122q
    refine own_go st122 ?_
    show own_Got p e below _ T122 (mkF m 133 #[.val (.long x0), .second, .val (.int x2), .val (.int (6 : Int32)), .val (.ref b_108), .val (.long x0), .second, .val (.long (x0 * x0)), .second, .val (.long ((x0 * x0) * x0)), .second, .val (.long ((x0 * x0) * (x0 * x0))), .second, .val (.long (((x0 * x0) * (x0 * x0)) * x0)), .second, .val (.long (((x0 * x0) * x0) * ((x0 * x0) * x0))), .second] [(.int (1 : Int32))])
    refine g_ifF X122 hx hby at_133 ((if0 _ _).trans (feq (by decide : ¬ ((1 : Int32) = (0 : Int32)))).1) (rfl : 133 + 3 = 136) ?_
    refine g_iconst X122 hx hby (1 : Int32) at_136 (by decide) (rfl : 136 + 1 = 137) ?_
    refine g_goto X122 hx hby at_137 (by decide) (pc' := 141) (by decide) ?_
    refine own_retN X122 hx hby hlk (t := .boolean) hrt (by simp) at_141 (by decide) (by decide) ?_
    show Q_law Z x0 x2 h0 n0 _ T122.heap _
    exact ⟨rfl, N122⟩
  · rw [hk38]
    refine g_lloadN X0 hx hby at_5 rfl (rfl : 5 + 1 = 6) ?_
    refine g_iloadN X0 hx hby at_6 rfl (rfl : 6 + 1 = 7) ?_
    obtain ⟨_, _, ⟨T123, L123, k123, n123⟩, -, X123, ⟨Lc123, hQ123, l123, y123, z123⟩, st123⟩ := Jvm.LawKit.callS X0 hx (y := (⟨"com/example/markov_lumper/markovlumper/decimal/Scaling", "powers", "(JI)[J"⟩ : MethodName)) hown (mvT hZ (hw _ (List.mem_of_getElem? (i := 0) rfl))) (mvT hZ (hw _ (List.mem_of_getElem? (i := 1) rfl))) (mvT hZ (hw _ (List.mem_of_getElem? (i := 2) rfl))) (mvT hZ (hw _ (List.mem_of_getElem? (i := 3) rfl))) (by decide) (backOf (W := 0) (rm_pw7 l Z a0 hw [] x0 h0 n0 Z0) hZ (hw _ (List.mem_of_getElem? (i := 3) rfl)) (hw _ (List.mem_of_getElem? (i := 2) rfl)) (by decide) (by decide)) (g := (mkF m 7 #[.val (.long x0), .second, .val (.int x2), .val (.int (7 : Int32)), .unset, .unset, .unset, .unset, .unset, .unset, .unset, .unset, .unset, .unset, .unset, .unset, .unset] [(.int (7 : Int32)), (.long x0)])) rfl (by rw [hml]; rfl) (argsL := [(.long x0), (.int (7 : Int32))]) (rest := []) (lenOf pd0 rfl) rfl (by show 2 * 0 + _ ≤ _; exact Nat.le_of_eq rfl) (hb hby at_7) (fun _ _ => ⟨rfl, e0, (by decide : 0 + 1 ≤ _), (by decide : 0 + 7 ≤ _)⟩)
    dsimp only [Pt.U, Pt.locs, Pt.cells, Pt.slots] at X123 l123 y123 z123 st123 hQ123
    subst l123 y123 z123
    obtain ⟨b_123, kk_123, rfl, N123q, K123, q123_0, q123_1⟩ := hQ123
    have N123 := Fr.app N0 N123q
    have Z123 : n0 ≤ T123.heap.size := Nat.le_trans Z0 K123.1
    have ge124 : n0 ≤ b_123 := Nat.le_trans Z0 q123_0
    refine own_go st123 ?_
    show own_Got p e below _ T123 (mkF m 10 #[.val (.long x0), .second, .val (.int x2), .val (.int (7 : Int32)), .unset, .unset, .unset, .unset, .unset, .unset, .unset, .unset, .unset, .unset, .unset, .unset, .unset] [(.ref b_123)])
    refine g_astore X123 hx hby #[.val (.long x0), .second, .val (.int x2), .val (.int (7 : Int32)), .val (.ref b_123), .unset, .unset, .unset, .unset, .unset, .unset, .unset, .unset, .unset, .unset, .unset, .unset] at_10 rfl rfl (rfl : 10 + 2 = 12) ?_
    refine g_aload X123 hx hby at_12 rfl rfl (rfl : 12 + 2 = 14) ?_
    refine g_alen X123 hx hby hZ rfl q123_1 at_14 (rfl : 14 + 1 = 15) ?_
    refine g_iloadN X123 hx hby at_15 rfl (rfl : 15 + 1 = 16) ?_
    refine g_icT X123 hx hby at_16 (teq (by decide : (7 : Int32) = (7 : Int32))).1 (by decide) (pc' := 21) (by decide) ?_
    refine g_lloadN X123 hx hby at_21 rfl (rfl : 21 + 1 = 22) ?_
    refine g_lstore X123 hx hby #[.val (.long x0), .second, .val (.int x2), .val (.int (7 : Int32)), .val (.ref b_123), .val (.long x0), .second, .unset, .unset, .unset, .unset, .unset, .unset, .unset, .unset, .unset, .unset] at_22 rfl (rfl : 22 + 2 = 24) ?_
    refine g_lload X123 hx hby at_24 rfl (rfl : 24 + 2 = 26) ?_
    refine g_lload X123 hx hby at_26 rfl (rfl : 26 + 2 = 28) ?_
    refine g_lmul X123 hx hby at_28 (rfl : 28 + 1 = 29) ?_
    refine g_lstore X123 hx hby #[.val (.long x0), .second, .val (.int x2), .val (.int (7 : Int32)), .val (.ref b_123), .val (.long x0), .second, .val (.long (x0 * x0)), .second, .unset, .unset, .unset, .unset, .unset, .unset, .unset, .unset] at_29 rfl (rfl : 29 + 2 = 31) ?_
    refine g_lload X123 hx hby at_31 rfl (rfl : 31 + 2 = 33) ?_
    refine g_lload X123 hx hby at_33 rfl (rfl : 33 + 2 = 35) ?_
    refine g_lmul X123 hx hby at_35 (rfl : 35 + 1 = 36) ?_
    refine g_lstore X123 hx hby #[.val (.long x0), .second, .val (.int x2), .val (.int (7 : Int32)), .val (.ref b_123), .val (.long x0), .second, .val (.long (x0 * x0)), .second, .val (.long ((x0 * x0) * x0)), .second, .unset, .unset, .unset, .unset, .unset, .unset] at_36 rfl (rfl : 36 + 2 = 38) ?_
    refine g_lload X123 hx hby at_38 rfl (rfl : 38 + 2 = 40) ?_
    refine g_lload X123 hx hby at_40 rfl (rfl : 40 + 2 = 42) ?_
    refine g_lmul X123 hx hby at_42 (rfl : 42 + 1 = 43) ?_
    refine g_lstore X123 hx hby #[.val (.long x0), .second, .val (.int x2), .val (.int (7 : Int32)), .val (.ref b_123), .val (.long x0), .second, .val (.long (x0 * x0)), .second, .val (.long ((x0 * x0) * x0)), .second, .val (.long ((x0 * x0) * (x0 * x0))), .second, .unset, .unset, .unset, .unset] at_43 rfl (rfl : 43 + 2 = 45) ?_
    refine g_lload X123 hx hby at_45 rfl (rfl : 45 + 2 = 47) ?_
    refine g_lload X123 hx hby at_47 rfl (rfl : 47 + 2 = 49) ?_
    refine g_lmul X123 hx hby at_49 (rfl : 49 + 1 = 50) ?_
    refine g_lstore X123 hx hby #[.val (.long x0), .second, .val (.int x2), .val (.int (7 : Int32)), .val (.ref b_123), .val (.long x0), .second, .val (.long (x0 * x0)), .second, .val (.long ((x0 * x0) * x0)), .second, .val (.long ((x0 * x0) * (x0 * x0))), .second, .val (.long (((x0 * x0) * (x0 * x0)) * x0)), .second, .unset, .unset] at_50 rfl (rfl : 50 + 2 = 52) ?_
    refine g_lload X123 hx hby at_52 rfl (rfl : 52 + 2 = 54) ?_
    refine g_lload X123 hx hby at_54 rfl (rfl : 54 + 2 = 56) ?_
    refine g_lmul X123 hx hby at_56 (rfl : 56 + 1 = 57) ?_
    refine g_lstore X123 hx hby #[.val (.long x0), .second, .val (.int x2), .val (.int (7 : Int32)), .val (.ref b_123), .val (.long x0), .second, .val (.long (x0 * x0)), .second, .val (.long ((x0 * x0) * x0)), .second, .val (.long ((x0 * x0) * (x0 * x0))), .second, .val (.long (((x0 * x0) * (x0 * x0)) * x0)), .second, .val (.long (((x0 * x0) * x0) * ((x0 * x0) * x0))), .second] at_57 rfl (rfl : 57 + 2 = 59) ?_
    refine g_aload X123 hx hby at_59 rfl rfl (rfl : 59 + 2 = 61) ?_
    refine g_iconst X123 hx hby (0 : Int32) at_61 (by decide) (rfl : 61 + 1 = 62) ?_
    refine g_lconst X123 hx hby (1 : Int64) at_62 (by decide) (rfl : 62 + 1 = 63) ?_
    obtain ⟨_, _, ⟨T125, L125, k125, n125⟩, -, X125, ⟨Lc125, hQ125, l125, y125, z125⟩, st125⟩ := Jvm.LawKit.callS X123 hx (y := (⟨"com/example/markov_lumper/markovlumper/decimal/ScalingPowersPinLaw", "at", "([JIJ)Z"⟩ : MethodName)) hown (mvT hZ (hw _ (List.mem_of_getElem? (i := 5) rfl))) (mvT hZ (hw _ (List.mem_of_getElem? (i := 6) rfl))) (mvT hZ (hw _ (List.mem_of_getElem? (i := 7) rfl))) (mvT hZ (hw _ (List.mem_of_getElem? (i := 8) rfl))) (by decide) (backOf (W := 0) (rm_atL l Z a0 hw [] b_123 (0 : Int32) (1 : Int64) (7 : Int32) kk_123 [(.long (1 : Int64)), (.long ((1 : Int64) * x0)), (.long (((1 : Int64) * x0) * x0)), (.long ((((1 : Int64) * x0) * x0) * x0)), (.long (((((1 : Int64) * x0) * x0) * x0) * x0)), (.long ((((((1 : Int64) * x0) * x0) * x0) * x0) * x0)), (.long (((((((1 : Int64) * x0) * x0) * x0) * x0) * x0) * x0))] (1 : Int64) T123.heap n0 Z123 q123_1 rfl (by decide) (by decide)) hZ (hw _ (List.mem_of_getElem? (i := 8) rfl)) (hw _ (List.mem_of_getElem? (i := 7) rfl)) (by decide) (by decide)) (g := (mkF m 63 #[.val (.long x0), .second, .val (.int x2), .val (.int (7 : Int32)), .val (.ref b_123), .val (.long x0), .second, .val (.long (x0 * x0)), .second, .val (.long ((x0 * x0) * x0)), .second, .val (.long ((x0 * x0) * (x0 * x0))), .second, .val (.long (((x0 * x0) * (x0 * x0)) * x0)), .second, .val (.long (((x0 * x0) * x0) * ((x0 * x0) * x0))), .second] [(.long (1 : Int64)), (.int (0 : Int32)), (.ref b_123)])) rfl (by rw [hml]; rfl) (argsL := [(.ref b_123), (.int (0 : Int32)), (.long (1 : Int64))]) (rest := []) (lenOf pd1 rfl) rfl (by show 2 * 0 + _ ≤ _; exact Nat.le_of_eq rfl) (hb hby at_63) (fun _ _ => ⟨rfl, rfl, (by decide : 1 + 0 ≤ _), (by decide : 7 + 0 ≤ _)⟩)
    dsimp only [Pt.U, Pt.locs, Pt.cells, Pt.slots] at X125 l125 y125 z125 st125 hQ125
    subst l125 y125 z125
    obtain ⟨rfl, N125q, eq125⟩ := hQ125
    have N125 := Fr.app N123 N125q
    refine own_go st125 ?_
    show own_Got p e below _ T125 (mkF m 66 #[.val (.long x0), .second, .val (.int x2), .val (.int (7 : Int32)), .val (.ref b_123), .val (.long x0), .second, .val (.long (x0 * x0)), .second, .val (.long ((x0 * x0) * x0)), .second, .val (.long ((x0 * x0) * (x0 * x0))), .second, .val (.long (((x0 * x0) * (x0 * x0)) * x0)), .second, .val (.long (((x0 * x0) * x0) * ((x0 * x0) * x0))), .second] [(.int (F_atL (1 : Int64) (1 : Int64)))])
    have c126 : ¬ ((F_atL (1 : Int64) (1 : Int64)) = (0 : Int32)) := own_atne (by simp only [Int64.one_mul, Int64.mul_assoc])
    refine g_ifF X125 hx hby at_66 ((if0 _ _).trans (feq c126).1) (rfl : 66 + 3 = 69) ?_
    refine g_aload X125 hx hby at_69 rfl rfl (rfl : 69 + 2 = 71) ?_
    refine g_iconst X125 hx hby (1 : Int32) at_71 (by decide) (rfl : 71 + 1 = 72) ?_
    refine g_lload X125 hx hby at_72 rfl (rfl : 72 + 2 = 74) ?_
    obtain ⟨_, _, ⟨T127, L127, k127, n127⟩, -, X127, ⟨Lc127, hQ127, l127, y127, z127⟩, st127⟩ := Jvm.LawKit.callS X125 hx (y := (⟨"com/example/markov_lumper/markovlumper/decimal/ScalingPowersPinLaw", "at", "([JIJ)Z"⟩ : MethodName)) hown (mvT hZ (hw _ (List.mem_of_getElem? (i := 5) rfl))) (mvT hZ (hw _ (List.mem_of_getElem? (i := 6) rfl))) (mvT hZ (hw _ (List.mem_of_getElem? (i := 7) rfl))) (mvT hZ (hw _ (List.mem_of_getElem? (i := 8) rfl))) (by decide) (backOf (W := 0) (rm_atL l Z a0 hw [] b_123 (1 : Int32) x0 (7 : Int32) kk_123 [(.long (1 : Int64)), (.long ((1 : Int64) * x0)), (.long (((1 : Int64) * x0) * x0)), (.long ((((1 : Int64) * x0) * x0) * x0)), (.long (((((1 : Int64) * x0) * x0) * x0) * x0)), (.long ((((((1 : Int64) * x0) * x0) * x0) * x0) * x0)), (.long (((((((1 : Int64) * x0) * x0) * x0) * x0) * x0) * x0))] ((1 : Int64) * x0) T123.heap n0 Z123 q123_1 rfl (by decide) (by decide)) hZ (hw _ (List.mem_of_getElem? (i := 8) rfl)) (hw _ (List.mem_of_getElem? (i := 7) rfl)) (by decide) (by decide)) (g := (mkF m 74 #[.val (.long x0), .second, .val (.int x2), .val (.int (7 : Int32)), .val (.ref b_123), .val (.long x0), .second, .val (.long (x0 * x0)), .second, .val (.long ((x0 * x0) * x0)), .second, .val (.long ((x0 * x0) * (x0 * x0))), .second, .val (.long (((x0 * x0) * (x0 * x0)) * x0)), .second, .val (.long (((x0 * x0) * x0) * ((x0 * x0) * x0))), .second] [(.long x0), (.int (1 : Int32)), (.ref b_123)])) rfl (by rw [hml]; rfl) (argsL := [(.ref b_123), (.int (1 : Int32)), (.long x0)]) (rest := []) (lenOf pd1 rfl) rfl (by show 2 * 0 + _ ≤ _; exact Nat.le_of_eq rfl) (hb hby at_74) (fun _ _ => ⟨rfl, eq125, (by decide : 1 + 0 ≤ _), (by decide : 7 + 0 ≤ _)⟩)
    dsimp only [Pt.U, Pt.locs, Pt.cells, Pt.slots] at X127 l127 y127 z127 st127 hQ127
    subst l127 y127 z127
    obtain ⟨rfl, N127q, eq127⟩ := hQ127
    have N127 := Fr.app N125 N127q
    refine own_go st127 ?_
    show own_Got p e below _ T127 (mkF m 77 #[.val (.long x0), .second, .val (.int x2), .val (.int (7 : Int32)), .val (.ref b_123), .val (.long x0), .second, .val (.long (x0 * x0)), .second, .val (.long ((x0 * x0) * x0)), .second, .val (.long ((x0 * x0) * (x0 * x0))), .second, .val (.long (((x0 * x0) * (x0 * x0)) * x0)), .second, .val (.long (((x0 * x0) * x0) * ((x0 * x0) * x0))), .second] [(.int (F_atL ((1 : Int64) * x0) x0))])
    have c128 : ¬ ((F_atL ((1 : Int64) * x0) x0) = (0 : Int32)) := own_atne (by simp only [Int64.one_mul, Int64.mul_assoc])
    refine g_ifF X127 hx hby at_77 ((if0 _ _).trans (feq c128).1) (rfl : 77 + 3 = 80) ?_
    refine g_aload X127 hx hby at_80 rfl rfl (rfl : 80 + 2 = 82) ?_
    refine g_iconst X127 hx hby (2 : Int32) at_82 (by decide) (rfl : 82 + 1 = 83) ?_
    refine g_lload X127 hx hby at_83 rfl (rfl : 83 + 2 = 85) ?_
    obtain ⟨_, _, ⟨T129, L129, k129, n129⟩, -, X129, ⟨Lc129, hQ129, l129, y129, z129⟩, st129⟩ := Jvm.LawKit.callS X127 hx (y := (⟨"com/example/markov_lumper/markovlumper/decimal/ScalingPowersPinLaw", "at", "([JIJ)Z"⟩ : MethodName)) hown (mvT hZ (hw _ (List.mem_of_getElem? (i := 5) rfl))) (mvT hZ (hw _ (List.mem_of_getElem? (i := 6) rfl))) (mvT hZ (hw _ (List.mem_of_getElem? (i := 7) rfl))) (mvT hZ (hw _ (List.mem_of_getElem? (i := 8) rfl))) (by decide) (backOf (W := 0) (rm_atL l Z a0 hw [] b_123 (2 : Int32) (x0 * x0) (7 : Int32) kk_123 [(.long (1 : Int64)), (.long ((1 : Int64) * x0)), (.long (((1 : Int64) * x0) * x0)), (.long ((((1 : Int64) * x0) * x0) * x0)), (.long (((((1 : Int64) * x0) * x0) * x0) * x0)), (.long ((((((1 : Int64) * x0) * x0) * x0) * x0) * x0)), (.long (((((((1 : Int64) * x0) * x0) * x0) * x0) * x0) * x0))] (((1 : Int64) * x0) * x0) T123.heap n0 Z123 q123_1 rfl (by decide) (by decide)) hZ (hw _ (List.mem_of_getElem? (i := 8) rfl)) (hw _ (List.mem_of_getElem? (i := 7) rfl)) (by decide) (by decide)) (g := (mkF m 85 #[.val (.long x0), .second, .val (.int x2), .val (.int (7 : Int32)), .val (.ref b_123), .val (.long x0), .second, .val (.long (x0 * x0)), .second, .val (.long ((x0 * x0) * x0)), .second, .val (.long ((x0 * x0) * (x0 * x0))), .second, .val (.long (((x0 * x0) * (x0 * x0)) * x0)), .second, .val (.long (((x0 * x0) * x0) * ((x0 * x0) * x0))), .second] [(.long (x0 * x0)), (.int (2 : Int32)), (.ref b_123)])) rfl (by rw [hml]; rfl) (argsL := [(.ref b_123), (.int (2 : Int32)), (.long (x0 * x0))]) (rest := []) (lenOf pd1 rfl) rfl (by show 2 * 0 + _ ≤ _; exact Nat.le_of_eq rfl) (hb hby at_85) (fun _ _ => ⟨rfl, eq127, (by decide : 1 + 0 ≤ _), (by decide : 7 + 0 ≤ _)⟩)
    dsimp only [Pt.U, Pt.locs, Pt.cells, Pt.slots] at X129 l129 y129 z129 st129 hQ129
    subst l129 y129 z129
    obtain ⟨rfl, N129q, eq129⟩ := hQ129
    have N129 := Fr.app N127 N129q
    refine own_go st129 ?_
    show own_Got p e below _ T129 (mkF m 88 #[.val (.long x0), .second, .val (.int x2), .val (.int (7 : Int32)), .val (.ref b_123), .val (.long x0), .second, .val (.long (x0 * x0)), .second, .val (.long ((x0 * x0) * x0)), .second, .val (.long ((x0 * x0) * (x0 * x0))), .second, .val (.long (((x0 * x0) * (x0 * x0)) * x0)), .second, .val (.long (((x0 * x0) * x0) * ((x0 * x0) * x0))), .second] [(.int (F_atL (((1 : Int64) * x0) * x0) (x0 * x0)))])
    have c130 : ¬ ((F_atL (((1 : Int64) * x0) * x0) (x0 * x0)) = (0 : Int32)) := own_atne (by simp only [Int64.one_mul, Int64.mul_assoc])
    refine g_ifF X129 hx hby at_88 ((if0 _ _).trans (feq c130).1) (rfl : 88 + 3 = 91) ?_
    refine g_aload X129 hx hby at_91 rfl rfl (rfl : 91 + 2 = 93) ?_
    refine g_iconst X129 hx hby (3 : Int32) at_93 (by decide) (rfl : 93 + 1 = 94) ?_
    refine g_lload X129 hx hby at_94 rfl (rfl : 94 + 2 = 96) ?_
    obtain ⟨_, _, ⟨T131, L131, k131, n131⟩, -, X131, ⟨Lc131, hQ131, l131, y131, z131⟩, st131⟩ := Jvm.LawKit.callS X129 hx (y := (⟨"com/example/markov_lumper/markovlumper/decimal/ScalingPowersPinLaw", "at", "([JIJ)Z"⟩ : MethodName)) hown (mvT hZ (hw _ (List.mem_of_getElem? (i := 5) rfl))) (mvT hZ (hw _ (List.mem_of_getElem? (i := 6) rfl))) (mvT hZ (hw _ (List.mem_of_getElem? (i := 7) rfl))) (mvT hZ (hw _ (List.mem_of_getElem? (i := 8) rfl))) (by decide) (backOf (W := 0) (rm_atL l Z a0 hw [] b_123 (3 : Int32) ((x0 * x0) * x0) (7 : Int32) kk_123 [(.long (1 : Int64)), (.long ((1 : Int64) * x0)), (.long (((1 : Int64) * x0) * x0)), (.long ((((1 : Int64) * x0) * x0) * x0)), (.long (((((1 : Int64) * x0) * x0) * x0) * x0)), (.long ((((((1 : Int64) * x0) * x0) * x0) * x0) * x0)), (.long (((((((1 : Int64) * x0) * x0) * x0) * x0) * x0) * x0))] ((((1 : Int64) * x0) * x0) * x0) T123.heap n0 Z123 q123_1 rfl (by decide) (by decide)) hZ (hw _ (List.mem_of_getElem? (i := 8) rfl)) (hw _ (List.mem_of_getElem? (i := 7) rfl)) (by decide) (by decide)) (g := (mkF m 96 #[.val (.long x0), .second, .val (.int x2), .val (.int (7 : Int32)), .val (.ref b_123), .val (.long x0), .second, .val (.long (x0 * x0)), .second, .val (.long ((x0 * x0) * x0)), .second, .val (.long ((x0 * x0) * (x0 * x0))), .second, .val (.long (((x0 * x0) * (x0 * x0)) * x0)), .second, .val (.long (((x0 * x0) * x0) * ((x0 * x0) * x0))), .second] [(.long ((x0 * x0) * x0)), (.int (3 : Int32)), (.ref b_123)])) rfl (by rw [hml]; rfl) (argsL := [(.ref b_123), (.int (3 : Int32)), (.long ((x0 * x0) * x0))]) (rest := []) (lenOf pd1 rfl) rfl (by show 2 * 0 + _ ≤ _; exact Nat.le_of_eq rfl) (hb hby at_96) (fun _ _ => ⟨rfl, eq129, (by decide : 1 + 0 ≤ _), (by decide : 7 + 0 ≤ _)⟩)
    dsimp only [Pt.U, Pt.locs, Pt.cells, Pt.slots] at X131 l131 y131 z131 st131 hQ131
    subst l131 y131 z131
    obtain ⟨rfl, N131q, eq131⟩ := hQ131
    have N131 := Fr.app N129 N131q
    refine own_go st131 ?_
    show own_Got p e below _ T131 (mkF m 99 #[.val (.long x0), .second, .val (.int x2), .val (.int (7 : Int32)), .val (.ref b_123), .val (.long x0), .second, .val (.long (x0 * x0)), .second, .val (.long ((x0 * x0) * x0)), .second, .val (.long ((x0 * x0) * (x0 * x0))), .second, .val (.long (((x0 * x0) * (x0 * x0)) * x0)), .second, .val (.long (((x0 * x0) * x0) * ((x0 * x0) * x0))), .second] [(.int (F_atL ((((1 : Int64) * x0) * x0) * x0) ((x0 * x0) * x0)))])
    have c132 : ¬ ((F_atL ((((1 : Int64) * x0) * x0) * x0) ((x0 * x0) * x0)) = (0 : Int32)) := own_atne (by simp only [Int64.one_mul, Int64.mul_assoc])
    refine g_ifF X131 hx hby at_99 ((if0 _ _).trans (feq c132).1) (rfl : 99 + 3 = 102) ?_
    refine g_aload X131 hx hby at_102 rfl rfl (rfl : 102 + 2 = 104) ?_
    refine g_iconst X131 hx hby (4 : Int32) at_104 (by decide) (rfl : 104 + 1 = 105) ?_
    refine g_lload X131 hx hby at_105 rfl (rfl : 105 + 2 = 107) ?_
    obtain ⟨_, _, ⟨T133, L133, k133, n133⟩, -, X133, ⟨Lc133, hQ133, l133, y133, z133⟩, st133⟩ := Jvm.LawKit.callS X131 hx (y := (⟨"com/example/markov_lumper/markovlumper/decimal/ScalingPowersPinLaw", "at", "([JIJ)Z"⟩ : MethodName)) hown (mvT hZ (hw _ (List.mem_of_getElem? (i := 5) rfl))) (mvT hZ (hw _ (List.mem_of_getElem? (i := 6) rfl))) (mvT hZ (hw _ (List.mem_of_getElem? (i := 7) rfl))) (mvT hZ (hw _ (List.mem_of_getElem? (i := 8) rfl))) (by decide) (backOf (W := 0) (rm_atL l Z a0 hw [] b_123 (4 : Int32) ((x0 * x0) * (x0 * x0)) (7 : Int32) kk_123 [(.long (1 : Int64)), (.long ((1 : Int64) * x0)), (.long (((1 : Int64) * x0) * x0)), (.long ((((1 : Int64) * x0) * x0) * x0)), (.long (((((1 : Int64) * x0) * x0) * x0) * x0)), (.long ((((((1 : Int64) * x0) * x0) * x0) * x0) * x0)), (.long (((((((1 : Int64) * x0) * x0) * x0) * x0) * x0) * x0))] (((((1 : Int64) * x0) * x0) * x0) * x0) T123.heap n0 Z123 q123_1 rfl (by decide) (by decide)) hZ (hw _ (List.mem_of_getElem? (i := 8) rfl)) (hw _ (List.mem_of_getElem? (i := 7) rfl)) (by decide) (by decide)) (g := (mkF m 107 #[.val (.long x0), .second, .val (.int x2), .val (.int (7 : Int32)), .val (.ref b_123), .val (.long x0), .second, .val (.long (x0 * x0)), .second, .val (.long ((x0 * x0) * x0)), .second, .val (.long ((x0 * x0) * (x0 * x0))), .second, .val (.long (((x0 * x0) * (x0 * x0)) * x0)), .second, .val (.long (((x0 * x0) * x0) * ((x0 * x0) * x0))), .second] [(.long ((x0 * x0) * (x0 * x0))), (.int (4 : Int32)), (.ref b_123)])) rfl (by rw [hml]; rfl) (argsL := [(.ref b_123), (.int (4 : Int32)), (.long ((x0 * x0) * (x0 * x0)))]) (rest := []) (lenOf pd1 rfl) rfl (by show 2 * 0 + _ ≤ _; exact Nat.le_of_eq rfl) (hb hby at_107) (fun _ _ => ⟨rfl, eq131, (by decide : 1 + 0 ≤ _), (by decide : 7 + 0 ≤ _)⟩)
    dsimp only [Pt.U, Pt.locs, Pt.cells, Pt.slots] at X133 l133 y133 z133 st133 hQ133
    subst l133 y133 z133
    obtain ⟨rfl, N133q, eq133⟩ := hQ133
    have N133 := Fr.app N131 N133q
    refine own_go st133 ?_
    show own_Got p e below _ T133 (mkF m 110 #[.val (.long x0), .second, .val (.int x2), .val (.int (7 : Int32)), .val (.ref b_123), .val (.long x0), .second, .val (.long (x0 * x0)), .second, .val (.long ((x0 * x0) * x0)), .second, .val (.long ((x0 * x0) * (x0 * x0))), .second, .val (.long (((x0 * x0) * (x0 * x0)) * x0)), .second, .val (.long (((x0 * x0) * x0) * ((x0 * x0) * x0))), .second] [(.int (F_atL (((((1 : Int64) * x0) * x0) * x0) * x0) ((x0 * x0) * (x0 * x0))))])
    have c134 : ¬ ((F_atL (((((1 : Int64) * x0) * x0) * x0) * x0) ((x0 * x0) * (x0 * x0))) = (0 : Int32)) := own_atne (by simp only [Int64.one_mul, Int64.mul_assoc])
    refine g_ifF X133 hx hby at_110 ((if0 _ _).trans (feq c134).1) (rfl : 110 + 3 = 113) ?_
    refine g_aload X133 hx hby at_113 rfl rfl (rfl : 113 + 2 = 115) ?_
    refine g_iconst X133 hx hby (5 : Int32) at_115 (by decide) (rfl : 115 + 1 = 116) ?_
    refine g_lload X133 hx hby at_116 rfl (rfl : 116 + 2 = 118) ?_
    obtain ⟨_, _, ⟨T135, L135, k135, n135⟩, -, X135, ⟨Lc135, hQ135, l135, y135, z135⟩, st135⟩ := Jvm.LawKit.callS X133 hx (y := (⟨"com/example/markov_lumper/markovlumper/decimal/ScalingPowersPinLaw", "at", "([JIJ)Z"⟩ : MethodName)) hown (mvT hZ (hw _ (List.mem_of_getElem? (i := 5) rfl))) (mvT hZ (hw _ (List.mem_of_getElem? (i := 6) rfl))) (mvT hZ (hw _ (List.mem_of_getElem? (i := 7) rfl))) (mvT hZ (hw _ (List.mem_of_getElem? (i := 8) rfl))) (by decide) (backOf (W := 0) (rm_atL l Z a0 hw [] b_123 (5 : Int32) (((x0 * x0) * (x0 * x0)) * x0) (7 : Int32) kk_123 [(.long (1 : Int64)), (.long ((1 : Int64) * x0)), (.long (((1 : Int64) * x0) * x0)), (.long ((((1 : Int64) * x0) * x0) * x0)), (.long (((((1 : Int64) * x0) * x0) * x0) * x0)), (.long ((((((1 : Int64) * x0) * x0) * x0) * x0) * x0)), (.long (((((((1 : Int64) * x0) * x0) * x0) * x0) * x0) * x0))] ((((((1 : Int64) * x0) * x0) * x0) * x0) * x0) T123.heap n0 Z123 q123_1 rfl (by decide) (by decide)) hZ (hw _ (List.mem_of_getElem? (i := 8) rfl)) (hw _ (List.mem_of_getElem? (i := 7) rfl)) (by decide) (by decide)) (g := (mkF m 118 #[.val (.long x0), .second, .val (.int x2), .val (.int (7 : Int32)), .val (.ref b_123), .val (.long x0), .second, .val (.long (x0 * x0)), .second, .val (.long ((x0 * x0) * x0)), .second, .val (.long ((x0 * x0) * (x0 * x0))), .second, .val (.long (((x0 * x0) * (x0 * x0)) * x0)), .second, .val (.long (((x0 * x0) * x0) * ((x0 * x0) * x0))), .second] [(.long (((x0 * x0) * (x0 * x0)) * x0)), (.int (5 : Int32)), (.ref b_123)])) rfl (by rw [hml]; rfl) (argsL := [(.ref b_123), (.int (5 : Int32)), (.long (((x0 * x0) * (x0 * x0)) * x0))]) (rest := []) (lenOf pd1 rfl) rfl (by show 2 * 0 + _ ≤ _; exact Nat.le_of_eq rfl) (hb hby at_118) (fun _ _ => ⟨rfl, eq133, (by decide : 1 + 0 ≤ _), (by decide : 7 + 0 ≤ _)⟩)
    dsimp only [Pt.U, Pt.locs, Pt.cells, Pt.slots] at X135 l135 y135 z135 st135 hQ135
    subst l135 y135 z135
    obtain ⟨rfl, N135q, eq135⟩ := hQ135
    have N135 := Fr.app N133 N135q
    refine own_go st135 ?_
    show own_Got p e below _ T135 (mkF m 121 #[.val (.long x0), .second, .val (.int x2), .val (.int (7 : Int32)), .val (.ref b_123), .val (.long x0), .second, .val (.long (x0 * x0)), .second, .val (.long ((x0 * x0) * x0)), .second, .val (.long ((x0 * x0) * (x0 * x0))), .second, .val (.long (((x0 * x0) * (x0 * x0)) * x0)), .second, .val (.long (((x0 * x0) * x0) * ((x0 * x0) * x0))), .second] [(.int (F_atL ((((((1 : Int64) * x0) * x0) * x0) * x0) * x0) (((x0 * x0) * (x0 * x0)) * x0)))])
    have c136 : ¬ ((F_atL ((((((1 : Int64) * x0) * x0) * x0) * x0) * x0) (((x0 * x0) * (x0 * x0)) * x0)) = (0 : Int32)) := own_atne (by simp only [Int64.one_mul, Int64.mul_assoc])
    refine g_ifF X135 hx hby at_121 ((if0 _ _).trans (feq c136).1) (rfl : 121 + 3 = 124) ?_
    refine g_aload X135 hx hby at_124 rfl rfl (rfl : 124 + 2 = 126) ?_
    refine g_bipush X135 hx hby (6 : Int32) at_126 (by decide) (rfl : 126 + 2 = 128) ?_
    refine g_lload X135 hx hby at_128 rfl (rfl : 128 + 2 = 130) ?_
    obtain ⟨_, _, ⟨T137, L137, k137, n137⟩, -, X137, ⟨Lc137, hQ137, l137, y137, z137⟩, st137⟩ := Jvm.LawKit.callS X135 hx (y := (⟨"com/example/markov_lumper/markovlumper/decimal/ScalingPowersPinLaw", "at", "([JIJ)Z"⟩ : MethodName)) hown (mvT hZ (hw _ (List.mem_of_getElem? (i := 5) rfl))) (mvT hZ (hw _ (List.mem_of_getElem? (i := 6) rfl))) (mvT hZ (hw _ (List.mem_of_getElem? (i := 7) rfl))) (mvT hZ (hw _ (List.mem_of_getElem? (i := 8) rfl))) (by decide) (backOf (W := 0) (rm_atL l Z a0 hw [] b_123 (6 : Int32) (((x0 * x0) * x0) * ((x0 * x0) * x0)) (7 : Int32) kk_123 [(.long (1 : Int64)), (.long ((1 : Int64) * x0)), (.long (((1 : Int64) * x0) * x0)), (.long ((((1 : Int64) * x0) * x0) * x0)), (.long (((((1 : Int64) * x0) * x0) * x0) * x0)), (.long ((((((1 : Int64) * x0) * x0) * x0) * x0) * x0)), (.long (((((((1 : Int64) * x0) * x0) * x0) * x0) * x0) * x0))] (((((((1 : Int64) * x0) * x0) * x0) * x0) * x0) * x0) T123.heap n0 Z123 q123_1 rfl (by decide) (by decide)) hZ (hw _ (List.mem_of_getElem? (i := 8) rfl)) (hw _ (List.mem_of_getElem? (i := 7) rfl)) (by decide) (by decide)) (g := (mkF m 130 #[.val (.long x0), .second, .val (.int x2), .val (.int (7 : Int32)), .val (.ref b_123), .val (.long x0), .second, .val (.long (x0 * x0)), .second, .val (.long ((x0 * x0) * x0)), .second, .val (.long ((x0 * x0) * (x0 * x0))), .second, .val (.long (((x0 * x0) * (x0 * x0)) * x0)), .second, .val (.long (((x0 * x0) * x0) * ((x0 * x0) * x0))), .second] [(.long (((x0 * x0) * x0) * ((x0 * x0) * x0))), (.int (6 : Int32)), (.ref b_123)])) rfl (by rw [hml]; rfl) (argsL := [(.ref b_123), (.int (6 : Int32)), (.long (((x0 * x0) * x0) * ((x0 * x0) * x0)))]) (rest := []) (lenOf pd1 rfl) rfl (by show 2 * 0 + _ ≤ _; exact Nat.le_of_eq rfl) (hb hby at_130) (fun _ _ => ⟨rfl, eq135, (by decide : 1 + 0 ≤ _), (by decide : 7 + 0 ≤ _)⟩)
    dsimp only [Pt.U, Pt.locs, Pt.cells, Pt.slots] at X137 l137 y137 z137 st137 hQ137
    subst l137 y137 z137
    obtain ⟨rfl, N137q, eq137⟩ := hQ137
    have N137 := Fr.app N135 N137q
    refine own_go st137 ?_
    show own_Got p e below _ T137 (mkF m 133 #[.val (.long x0), .second, .val (.int x2), .val (.int (7 : Int32)), .val (.ref b_123), .val (.long x0), .second, .val (.long (x0 * x0)), .second, .val (.long ((x0 * x0) * x0)), .second, .val (.long ((x0 * x0) * (x0 * x0))), .second, .val (.long (((x0 * x0) * (x0 * x0)) * x0)), .second, .val (.long (((x0 * x0) * x0) * ((x0 * x0) * x0))), .second] [(.int (F_atL (((((((1 : Int64) * x0) * x0) * x0) * x0) * x0) * x0) (((x0 * x0) * x0) * ((x0 * x0) * x0))))])
    have c138 : ¬ ((F_atL (((((((1 : Int64) * x0) * x0) * x0) * x0) * x0) * x0) (((x0 * x0) * x0) * ((x0 * x0) * x0))) = (0 : Int32)) := own_atne (by simp only [Int64.one_mul, Int64.mul_assoc])
    refine g_ifF X137 hx hby at_133 ((if0 _ _).trans (feq c138).1) (rfl : 133 + 3 = 136) ?_
    refine g_iconst X137 hx hby (1 : Int32) at_136 (by decide) (rfl : 136 + 1 = 137) ?_
    refine g_goto X137 hx hby at_137 (by decide) (pc' := 141) (by decide) ?_
    refine own_retN X137 hx hby hlk (t := .boolean) hrt (by simp) at_141 (by decide) (by decide) ?_
    show Q_law Z x0 x2 h0 n0 _ T137.heap _
    exact ⟨rfl, N137⟩
set_option maxRecDepth 65536 in
set_option maxHeartbeats 40000000 in
theorem comes_1 {Post : Tables → Env → Array Value → State → Outcome → State → Prop} (hpost : ∀ tb e args s v u, (limb_1_1.after args s (.returned v) u = true ∧ limb_1_2.after args s (.returned v) u = true ∧ True) → FrameEnd s (.returned v) u (Jvm.fieldLocs frame_1_writes args s ++ Jvm.arrayLocs frame_1_arrays args s ++ Jvm.staticLocs frame_1_statics s) 16 128 → Post tb e args s (.returned v) u) :
    ArmFor flags0 classFile x code maxLocals ret World_1 tables_1 room_1 Calls_1 rest_1 Pre_1 Post := by
  intro l hfl _ _ p e ha hc hk s m args below hf hA hF happ hP
  obtain ⟨hcalls, hrest, hpre⟩ := hP
  obtain ⟨-, -, -, hnamed, -, -, -, hat⟩ := (Spec.applies_iff hf).mp happ
  obtain ⟨hg, hn⟩ := and_e (Cond.before_iff.mp (show (Jvm.Cond.and given_1 narrow_1).before args s = true from hpre))
  obtain ⟨hcnt, hg0⟩ := and_e hg
  obtain ⟨ha0, hg1⟩ := and_e hg0
  obtain ⟨w0, w1, rfl⟩ : ∃ w0 w1 : Value, args = #[w0, w1] := by
    have hs : args.size = 2 := by simpa [Cond.value, given_1] using hcnt
    obtain ⟨L⟩ := args
    match L, hs with
    | [w0, w1], _ => exact ⟨w0, w1, rfl⟩
  have hw := fun d (hd : d ∈ tables_1) => atoms_spec (ws := Jvm.Cond.code x code maxLocals ret :: tables_1) hat d (List.mem_cons_of_mem _ hd)
  have hfit : Fit s := fun {y c} hc i hi => by
    obtain ⟨ha, rfl⟩ := Array.getElem?_eq_some_iff.mp hc
    have q := List.all_eq_true.mp ((Array.all_eq_true_iff_forall_mem.mp hF) _ (Array.getElem_mem ha)) i (List.mem_range.mpr hi)
    simpa [Array.getElem?_eq_getElem hi] using q
  obtain ⟨i0, ei0⟩ := isL_v ha0
  obtain rfl : w0 = (.long i0) := Option.some.inj ei0
  obtain ⟨i1, ei1⟩ := is_v hg1
  obtain rfl : w1 = (.int i1) := Option.some.inj ei1
  obtain ⟨n, o, h1, h2, h3, _, L, rfl, ⟨hv, N⟩, hq⟩ := rm_law l s _ hw tables_1 i0 i1 s.heap s.heap.size (Nat.le_refl _)  p e ha hc hk s m _ below hf ((Spec.applies_iff_loose hf).mp happ).1 ⟨rfl, State.Warmed39.refl s, rfl⟩ trivial
  subst hv
  refine ⟨n, _, h1, h2, h3, hpost _ _ _ _ _ _ ⟨Cond.after_iff.mpr rfl, Cond.after_iff.mpr (eq_i res_at (Term.int_eval (1)) rfl), trivial⟩ ⟨hq.1, hq.2.1, (hq.2.2.sift fun y hy => Or.inr (N y hy)).mono (by decide) (by decide)⟩⟩
theorem main_1_1 : Claimed_1_1 := comes_1 fun _ _ _ _ _ _ h hF => ⟨h.1, hF⟩
theorem main_1_2 : Claimed_1_2 := comes_1 fun _ _ _ _ _ _ h hF => ⟨h.2.1, hF⟩
end Jvm.Pilot.@@N@@
namespace Jvm.Pilot.@@N@@
open Jvm Jvm.ClassFile Sem Op Lib Jvm.Free Jvm.Stand Jvm.Pilot.@@N@@.Jvm.D
/-! MADE BY PROGRAM (witnessworld.py) out of the Statement's table words and the real class files: 11 classes; the members and pool entries that the words name. The judged class is class 1, her method 1. -/
namespace start1
open Jvm.ClassFile
def u (s : String) : CpInfo := .utf8 (stringToUtf16 s)
/-- a pool by its gaps: so many unusable entries, then the entry; so many at the end -/
def gap : Nat → List CpInfo → List CpInfo
  | 0, r => r
  | n + 1, r => .unusable :: gap n r
def poolList (es : List (Nat × CpInfo)) (last : Nat) : List CpInfo := es.foldr (fun e r => gap e.1 (e.2 :: r)) (gap last [])
def pool (es : List (Nat × CpInfo)) (last : Nat) : Array CpInfo := ⟨poolList es last⟩
def fileOf (pool : Array CpInfo) (this : Nat) (attrs : Array Attribute := #[]) (ms : Array MethodInfo := #[]) (fl : Nat := 33) (sup : Nat := 0) (ifs : Array Nat := #[]) (fds : Array FieldInfo := #[]) : ClassFile where
  minorVersion := 0
  majorVersion := 65
  constantPool := pool
  accessFlags := fl
  thisClass := this
  superClass := sup
  interfaces := ifs
  fields := fds
  methods := ms
  attributes := attrs
def plain (name : String) (sup : Option ClassId) : Class where
  name := name
  kind := .ordinary
  loader := none
  accessFlags := 33
  super := sup
  interfaces := #[]
  cf := none
  fields := #[]
  methods := #[]
  instanceTypes := #[]
  staticTypes := #[]
  resolved := #[]
  callSites := []
  init := .initialized
  statics := none
  mirror := none

def pool0 : Array CpInfo := pool [(5, u "<init>"), (0, u "()V"), (1, .class_ 10), (1, u "java/lang/Object")] 113

def k0m0 : Method := { name := "<init>", desc := "()V", sig := { parameters := [], returnType := none }, accessFlags := 1, code := none }
/-- java/lang/Object -/
def k0 : Class := { plain "java/lang/Object" none with
  accessFlags := 33
  interfaces := #[]
  cf := some (fileOf pool0 8 #[] #[{ accessFlags := 1, nameIndex := 5, descriptorIndex := 6, attributes := #[] }] 33 0 #[] #[])
  fields := #[]
  methods := #[k0m0]
  instanceTypes := #[]
  staticTypes := #[]
  resolved := Array.replicate 124 none
  statics := none }

def pool1 : Array CpInfo := pool [(2, .class_ 4), (1, u "java/lang/Object"), (0, u "<init>"), (0, u "()V"), (0, .methodref 8 9), (0, .class_ 10), (0, .nameAndType 11 12), (0, u "com/example/markov_lumper/markovlumper/decimal/Scaling"), (0, u "powers"), (0, u "(JI)[J"), (0, .methodref 14 15), (0, .class_ 16), (0, .nameAndType 17 18), (0, u "com/example/markov_lumper/markovlumper/decimal/ScalingPowersPinLaw"), (0, u "at"), (0, u "([JIJ)Z"), (2, u "law"), (0, u "(JI)Z")] 5

def k1m0 : Method := { name := "<init>", desc := "()V", sig := { parameters := [], returnType := none }, accessFlags := 1, code := none }
def k1c1 : Code := { maxStack := 4, maxLocals := 17, code := code, exceptionTable := #[], attributes := #[] }
def k1m1 : Method := { name := "law", desc := "(JI)Z", sig := { parameters := [.long, .int], returnType := some .boolean }, accessFlags := 9, code := some k1c1 }
def k1c2 : Code := { maxStack := 4, maxLocals := 4, code := method_3_code, exceptionTable := #[], attributes := #[] }
def k1m2 : Method := { name := "at", desc := "([JIJ)Z", sig := { parameters := [(.array .long), .int, .long], returnType := some .boolean }, accessFlags := 10, code := some k1c2 }
/-- com/example/markov_lumper/markovlumper/decimal/ScalingPowersPinLaw -/
def k1 : Class := { plain "com/example/markov_lumper/markovlumper/decimal/ScalingPowersPinLaw" (some 0) with
  accessFlags := 49
  interfaces := #[]
  cf := some (fileOf pool1 14 #[] #[{ accessFlags := 1, nameIndex := 5, descriptorIndex := 6, attributes := #[] }, { accessFlags := 9, nameIndex := 21, descriptorIndex := 22, attributes := #[] }, { accessFlags := 10, nameIndex := 17, descriptorIndex := 18, attributes := #[] }] 49 2 #[] #[])
  fields := #[]
  methods := #[k1m0, k1m1, k1m2]
  instanceTypes := #[]
  staticTypes := #[]
  resolved := Array.replicate 28 none
  statics := none }

def pool2 : Array CpInfo := pool [(2, .class_ 4), (1, u "java/lang/Object"), (3, .class_ 10), (1, u "com/example/markov_lumper/markovlumper/decimal/Scaling"), (0, u "twos"), (0, u "I"), (2, u "tens"), (2, u "HIGH_WORDS"), (0, u "[J"), (2, u "highWord"), (0, u "J"), (2, u "LOW_WORDS"), (2, u "lowWord"), (2, u "BINARY_EXPONENTS"), (0, u "[I"), (2, u "shift"), (27, u "POWERS_OF_FIVE"), (46, u "powers"), (0, u "(JI)[J"), (8, u "MIN_TENS"), (2, u "MAX_TENS"), (1, u "MAX_FIVES")] 10

def k2c0 : Code := { maxStack := 4, maxLocals := 7, code := prog_35_method_8_code, exceptionTable := #[], attributes := #[] }
def k2m0 : Method := { name := "powers", desc := "(JI)[J", sig := { parameters := [.long, .int], returnType := some (.array .long) }, accessFlags := 8, code := some k2c0 }
/-- com/example/markov_lumper/markovlumper/decimal/Scaling -/
def k2 : Class := { plain "com/example/markov_lumper/markovlumper/decimal/Scaling" (some 0) with
  accessFlags := 32
  interfaces := #[]
  cf := some (fileOf pool2 8 #[] #[{ accessFlags := 8, nameIndex := 111, descriptorIndex := 112, attributes := #[] }] 32 2 #[] #[{ accessFlags := 24, nameIndex := 121, descriptorIndex := 12, attributes := #[] }, { accessFlags := 24, nameIndex := 124, descriptorIndex := 12, attributes := #[] }, { accessFlags := 26, nameIndex := 126, descriptorIndex := 12, attributes := #[] }, { accessFlags := 26, nameIndex := 64, descriptorIndex := 19, attributes := #[] }, { accessFlags := 26, nameIndex := 18, descriptorIndex := 19, attributes := #[] }, { accessFlags := 26, nameIndex := 26, descriptorIndex := 19, attributes := #[] }, { accessFlags := 26, nameIndex := 32, descriptorIndex := 33, attributes := #[] }, { accessFlags := 18, nameIndex := 11, descriptorIndex := 12, attributes := #[] }, { accessFlags := 18, nameIndex := 15, descriptorIndex := 12, attributes := #[] }, { accessFlags := 18, nameIndex := 22, descriptorIndex := 23, attributes := #[] }, { accessFlags := 18, nameIndex := 29, descriptorIndex := 23, attributes := #[] }, { accessFlags := 18, nameIndex := 36, descriptorIndex := 12, attributes := #[] }])
  fields := #[{ name := "MIN_TENS", type := .int, accessFlags := 24, slot := 0, constantValue := 0 }, { name := "MAX_TENS", type := .int, accessFlags := 24, slot := 1, constantValue := 0 }, { name := "MAX_FIVES", type := .int, accessFlags := 26, slot := 2, constantValue := 0 }, { name := "POWERS_OF_FIVE", type := (.array .long), accessFlags := 26, slot := 3, constantValue := 0 }, { name := "HIGH_WORDS", type := (.array .long), accessFlags := 26, slot := 4, constantValue := 0 }, { name := "LOW_WORDS", type := (.array .long), accessFlags := 26, slot := 5, constantValue := 0 }, { name := "BINARY_EXPONENTS", type := (.array .int), accessFlags := 26, slot := 6, constantValue := 0 }, { name := "twos", type := .int, accessFlags := 18, slot := 0, constantValue := 0 }, { name := "tens", type := .int, accessFlags := 18, slot := 1, constantValue := 0 }, { name := "highWord", type := .long, accessFlags := 18, slot := 2, constantValue := 0 }, { name := "lowWord", type := .long, accessFlags := 18, slot := 3, constantValue := 0 }, { name := "shift", type := .int, accessFlags := 18, slot := 4, constantValue := 0 }]
  methods := #[k2m0]
  instanceTypes := #[.int, .int, .long, .long, .int]
  staticTypes := #[.int, .int, .int, (.array .long), (.array .long), (.array .long), (.array .int)]
  resolved := Array.replicate 137 none
  statics := none }

def pool3 : Array CpInfo := pool [(1, u "java/lang/Cloneable"), (0, .class_ 1), (0, u "java/lang/Object"), (0, .class_ 3)] 3

/-- java/lang/Cloneable -/
def k3 : Class := { plain "java/lang/Cloneable" (some 0) with
  accessFlags := 1537
  interfaces := #[]
  cf := some (fileOf pool3 2 #[] #[] 1537 4 #[] #[])
  fields := #[]
  methods := #[]
  instanceTypes := #[]
  staticTypes := #[]
  resolved := Array.replicate 8 none
  statics := none }

def pool4 : Array CpInfo := pool [(1, u "java/io/Serializable"), (0, .class_ 1), (0, u "java/lang/Object"), (0, .class_ 3)] 3

/-- java/io/Serializable -/
def k4 : Class := { plain "java/io/Serializable" (some 0) with
  accessFlags := 1537
  interfaces := #[]
  cf := some (fileOf pool4 2 #[] #[] 1537 4 #[] #[])
  fields := #[]
  methods := #[]
  instanceTypes := #[]
  staticTypes := #[]
  resolved := Array.replicate 8 none
  statics := none }

/-- the primitive byte -/
def k5 : Class := { plain "byte" none with kind := .primitive 'B', accessFlags := 0x411 }
/-- [B -/
def k6 : Class := { plain "[B" (some 0) with kind := .array 5 .byte, interfaces := #[3, 4], accessFlags := 1041 }

/-- the primitive int -/
def k7 : Class := { plain "int" none with kind := .primitive 'I', accessFlags := 0x411 }
/-- [I -/
def k8 : Class := { plain "[I" (some 0) with kind := .array 7 .int, interfaces := #[3, 4], accessFlags := 1041 }

/-- the primitive long -/
def k9 : Class := { plain "long" none with kind := .primitive 'J', accessFlags := 0x411 }
/-- [J -/
def k10 : Class := { plain "[J" (some 0) with kind := .array 9 .long, interfaces := #[3, 4], accessFlags := 1041 }

def heap : Heap := #[]
def classes : Array Class := #[k0, k1, k2, k3, k4, k5, k6, k7, k8, k9, k10]
def interned : List (Array UInt16 × Addr) := []
def slotsUsed : Nat := 0
def theMethod : MethodId := ⟨1, 1⟩
def args0 : Array Value := #[.long 5, .int 3]
def aboutOver (below : List Frame) : State where
  vm := { classes := classes, interned := interned.toArray }
  heap := heap
  slotsUsed := slotsUsed
  threads := #[{ frames := .invoking theMethod args0 :: below }]
def below0 : List Frame := [.native { method := ⟨0, 0⟩, args := #[] }]
def about1 : State := aboutOver below0
def p0 : Program := .bare "" "" ""
def e0 : Env := launch0.env 0 0 0
theorem w_frames : about1.frames = Frame.invoking theMethod args0 :: below0 := rfl
set_option maxRecDepth 65536 in
theorem w_args : argsFit about1.vm theMethod args0 = true := by decide +kernel
set_option maxRecDepth 65536 in
theorem w_heap : heapFits about1 = true := by decide +kernel
set_option maxRecDepth 65536 in
theorem w_runnable : about1.curStatus? = some .runnable := by decide +kernel
set_option maxRecDepth 65536 in
theorem w_alone : about1.alone = true := by decide +kernel
set_option maxRecDepth 65536 in
theorem w_named : about1.methodNamed? x = some theMethod := by decide +kernel
set_option maxRecDepth 65536 in
theorem w_hears : about1.hears theMethod below0 = true := by decide +kernel
set_option maxRecDepth 65536 in
theorem w_ripe : about1.ripe theMethod args0 below0 = true := by decide +kernel
theorem w_running : about1.status = .running := rfl
set_option maxRecDepth 65536 in
theorem w_room : about1.hasRoom e0.platform room_1 = true :=
  launch0.hasRoom_least _ room_1 (by decide +kernel) (by decide +kernel) (by decide +kernel) (by decide +kernel) (by decide +kernel) (by decide +kernel)
theorem allAtoms_all (ts : List Jvm.Cond) (a : Array Jvm.Value) (st : Jvm.State) : (allAtoms ts).before a st = ts.all (fun c => c.before a st) := by
  induction ts with
  | nil => rfl
  | cons c t ih =>
    show (Jvm.Cond.and c (allAtoms t)).before a st = _
    rw [Jvm.Cond.before_and, ih, List.all_cons]
def words1 : List Jvm.Cond := Jvm.Cond.code x code maxLocals ret :: tables_1
/-- a 'code' word, met by the world's own term for the bytes: nothing is compared byte by byte -/
theorem code_word {y : MethodName} {bytes : ByteArray} {mx : Nat} {rt : Option FieldType} {a : Array Value} {s : State} {m : MethodId} {meth : Method} {c : Code} (h1 : s.methodNamed? y = some m) (h2 : s.vm.method? m = some meth) (h3 : meth.code = some c) (h4 : c.code = bytes)
    (h5 : (c.maxLocals == mx && c.exceptionTable.isEmpty && decide (c.maxStack ≤ mostOperands) && decide (meth.sig.returnType = rt) && !meth.locks && decide (parseMethodDescriptor y.desc = some meth.sig)) = true) : (Jvm.Cond.code y bytes mx rt).before a s = true := by
  simp only [Bool.and_eq_true, beq_iff_eq, Bool.not_eq_true', decide_eq_true_eq] at h5
  obtain ⟨⟨⟨⟨⟨g1, g2⟩, g3⟩, g4⟩, g5⟩, g6⟩ := h5
  simp [Cond.before, Cond.holds, Cond.value, h1, h2, h3, h4, g1, g2, g3, g4, g5, g6]
def isCode : Jvm.Cond → Bool
  | .code _ _ _ _ => true
  | _ => false
theorem all_split {L : List Jvm.Cond} {P : Jvm.Cond → Bool} (h1 : L.all (fun c => isCode c || P c) = true) (h2 : ∀ c ∈ L.filter isCode, P c = true) : L.all P = true := by
  refine List.all_eq_true.mpr fun c hc => ?_
  have h := List.all_eq_true.mp h1 c hc
  rcases Bool.eq_false_or_eq_true (isCode c) with hi | hi
  · exact h2 c (List.mem_filter.mpr ⟨hc, hi⟩)
  · simpa [hi] using h
set_option maxRecDepth 65536 in
theorem w_c0 : (Jvm.Cond.code x code maxLocals ret).before args0 about1 = true := code_word (m := ⟨1, 1⟩) (meth := k1m1) (c := k1c1) (by decide +kernel) rfl rfl rfl (by decide +kernel)
set_option maxRecDepth 65536 in
theorem w_c1 : (Jvm.Cond.code ({ cls := "com/example/markov_lumper/markovlumper/decimal/Scaling", name := "powers", desc := "(JI)[J" } : Jvm.MethodName) prog_35_method_8_code (7 : Nat) (Option.some (Jvm.ClassFile.FieldType.array Jvm.ClassFile.FieldType.long))).before args0 about1 = true := code_word (m := ⟨2, 0⟩) (meth := k2m0) (c := k2c0) (by decide +kernel) rfl rfl rfl (by decide +kernel)
set_option maxRecDepth 65536 in
theorem w_c2 : (Jvm.Cond.code ({ cls := "com/example/markov_lumper/markovlumper/decimal/ScalingPowersPinLaw", name := "at", desc := "([JIJ)Z" } : Jvm.MethodName) method_3_code (4 : Nat) (Option.some Jvm.ClassFile.FieldType.boolean)).before args0 about1 = true := code_word (m := ⟨1, 2⟩) (meth := k1m2) (c := k1c2) (by decide +kernel) rfl rfl rfl (by decide +kernel)
def codes1 : List Jvm.Cond := [Jvm.Cond.code x code maxLocals ret, Jvm.Cond.code ({ cls := "com/example/markov_lumper/markovlumper/decimal/Scaling", name := "powers", desc := "(JI)[J" } : Jvm.MethodName) prog_35_method_8_code (7 : Nat) (Option.some (Jvm.ClassFile.FieldType.array Jvm.ClassFile.FieldType.long)), Jvm.Cond.code ({ cls := "com/example/markov_lumper/markovlumper/decimal/ScalingPowersPinLaw", name := "at", desc := "([JIJ)Z" } : Jvm.MethodName) method_3_code (4 : Nat) (Option.some Jvm.ClassFile.FieldType.boolean)]
set_option maxRecDepth 65536 in
theorem codes_eq : words1.filter isCode = codes1 := rfl
theorem w_codes : ∀ c ∈ words1.filter isCode, c.before args0 about1 = true := by
  rw [codes_eq]
  intro c hc
  simp only [codes1, List.mem_cons, List.not_mem_nil, or_false] at hc
  rcases hc with rfl | rfl | rfl
  · exact w_c0
  · exact w_c1
  · exact w_c2
set_option maxRecDepth 65536 in
theorem w_t1 : words1.all (fun c => isCode c || c.before args0 about1) = true := by decide +kernel
theorem w_tables : (allAtoms (Jvm.Cond.code x code maxLocals ret :: tables_1)).before args0 about1 = true := by
  rw [allAtoms_all]
  show words1.all (fun c => c.before args0 about1) = true
  refine all_split ?_ w_codes
  rw [w_t1]
set_option maxRecDepth 65536 in
theorem w_case : (Jvm.Cond.and given_1 narrow_1).before args0 about1 = true := by decide +kernel
theorem w_applies : (headSpec (Jvm.Cond.code x code maxLocals ret :: tables_1) room_1).applies x e0.platform about1 = true :=
  (Spec.applies_iff w_frames).mpr ⟨w_running, w_runnable, w_alone, w_named, w_hears, w_ripe, w_room, w_tables⟩
theorem atStart : AtStart classFile x code maxLocals ret World_1 tables_1 room_1 Calls_1 rest_1 Pre_1 launch0 p0 e0 about1 theMethod args0 below0 :=
  ⟨lists_1, trivial, launch0.admits_env _ _ _, launch0.least_env, fairChoices_fair.cas, fairChoices_fair.clock, w_frames, w_args, w_heap, w_applies, trivial, trivial, w_case⟩
end start1
theorem witness_1 : WitnessClaimed_1 := ⟨start1.p0, start1.e0, start1.about1, start1.theMethod, start1.args0, start1.below0, start1.atStart⟩
end Jvm.Pilot.@@N@@
