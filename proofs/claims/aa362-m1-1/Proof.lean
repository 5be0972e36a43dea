import JvmDerived
import JvmDerived.Pilot.@@N@@Statement
import JvmDerived.Pilot.@@N@@Code
set_option linter.unusedVariables false
set_option linter.unusedSimpArgs false
namespace Jvm.Pilot.@@N@@
open Jvm Jvm.ClassFile Sem Op Lib Jvm.Free Jvm.Stand Jvm.LawKit Jvm.RoadKit Bundle Jvm.Pilot.@@N@@.Jvm.D
section OwnKit
variable {p : Program} {l : Launch} {e : Env} {R : Room} {s : State} {m : MethodId} {args : Array Value} {below : List Frame} {meth : Method} {c : Code} {T T' : State} {locs : List Loc} {cells slots : Nat} {P : Outcome → State → Prop} {Q : Option Value → Heap → List Loc → Prop} {cC cS : Nat} {bytes : ByteArray} {ls : Array Slot} {st : List Value} {pc pc' : Nat} {g g' : JFrame} {Z : State} {a0 : Array Value} {h h' : Heap}
/-- from this state and frame the method comes to its end, returns, and Q holds of what it leaves -/
def own_Got (p : Program) (e : Env) (below : List Frame) (P : Outcome → State → Prop) (T : State) (g : JFrame) : Prop :=
  ∃ s₂ o, Steps p.tables e below (T.setTop g) s₂ ∧ s₂.status = .running ∧ Ended s₂ below o ∧ P o s₂
/-- what a contract says of the end -/
def own_End (s : State) (Q : Option Value → Heap → List Loc → Prop) (cC cS : Nat) (o : Outcome) (U : State) : Prop := ∃ v L, o = .returned v ∧ Q v U.heap L ∧ FrameEnd s o U L cC cS
theorem own_go (k : ∀ t, Steps p.tables e below (T'.setTop g') t → Steps p.tables e below (T.setTop g) t) (h : own_Got p e below P T' g') : own_Got p e below P T g := by
  obtain ⟨s2, o, h1, h2⟩ := h; exact ⟨s2, o, k _ h1, h2⟩
theorem own_tr (k : Steps p.tables e below (T.setTop g) (T'.setTop g')) (h : own_Got p e below P T' g') : own_Got p e below P T g := own_go (fun _ q => k.trans q) h
theorem own_cast (q : g = g') (h : own_Got p e below P T g') : own_Got p e below P T g := q ▸ h
theorem own_retV (X : Stand p l e R s m args below meth c T locs cells slots) (hx : p.tables.exec = Jvm.exec) (hby : c.code = bytes) (hlk : meth.locks = false) (hret : meth.sig.returnType = none) (hd : decode bytes pc = .ok (.return_, 1)) (hc : cells ≤ cC) (hs : slots ≤ cS)
    (hq : Q none T.heap locs) : own_Got p e below (own_End s Q cC cS) T (mkF m pc ls []) := by
  obtain ⟨fs, hr, hrun, hended, hW, hsame⟩ := X.leave (v := none) (fun _ => rfl) hlk
  exact ⟨_, _, X.returnOut hx hret (hb hby hd) hr, hrun, hended, _, _, rfl, hq, ⟨_, rfl⟩, hW, hsame.mono hc hs⟩
theorem own_retI (X : Stand p l e R s m args below meth c T locs cells slots) (hx : p.tables.exec = Jvm.exec) (hby : c.code = bytes) (hlk : meth.locks = false) (hret : meth.sig.returnType = some .int) (hd : decode bytes pc = .ok (.ireturn, 1)) (hc : cells ≤ cC) (hs : slots ≤ cS) {z : Int32}
    (hq : Q (some (.int z)) T.heap locs) : own_Got p e below (own_End s Q cC cS) T (mkF m pc ls (.int z :: st)) := by
  obtain ⟨fs, hr, hrun, hended, hW, hsame⟩ := X.leave (v := some (.int z)) (fun h => by rw [hret] at h; cases h) hlk
  exact ⟨_, _, retOut X hx hret rfl (Or.inl ⟨rfl, Or.inl rfl, _, rfl⟩) (hb hby hd) hr, hrun, hended, _, _, rfl, hq, ⟨_, rfl⟩, hW, hsame.mono hc hs⟩
theorem own_retL (X : Stand p l e R s m args below meth c T locs cells slots) (hx : p.tables.exec = Jvm.exec) (hby : c.code = bytes) (hlk : meth.locks = false) (hret : meth.sig.returnType = some .long) (hd : decode bytes pc = .ok (.lreturn, 1)) (hc : cells ≤ cC) (hs : slots ≤ cS) {z : Int64}
    (hq : Q (some (.long z)) T.heap locs) : own_Got p e below (own_End s Q cC cS) T (mkF m pc ls (.long z :: st)) := by
  obtain ⟨fs, hr, hrun, hended, hW, hsame⟩ := X.leave (v := some (.long z)) (fun h => by rw [hret] at h; cases h) hlk
  exact ⟨_, _, retOut X hx hret rfl (Or.inr (Or.inl ⟨rfl, rfl, _, rfl⟩)) (hb hby hd) hr, hrun, hended, _, _, rfl, hq, ⟨_, rfl⟩, hW, hsame.mono hc hs⟩
theorem own_retD (X : Stand p l e R s m args below meth c T locs cells slots) (hx : p.tables.exec = Jvm.exec) (hby : c.code = bytes) (hlk : meth.locks = false) (hret : meth.sig.returnType = some .double) (hd : decode bytes pc = .ok (.dreturn, 1)) (hc : cells ≤ cC) (hs : slots ≤ cS) {z : UInt64}
    (hq : Q (some (.double z)) T.heap locs) : own_Got p e below (own_End s Q cC cS) T (mkF m pc ls (.double z :: st)) := by
  obtain ⟨fs, hr, hrun, hended, hW, hsame⟩ := X.leave (v := some (.double z)) (fun h => by rw [hret] at h; cases h) hlk
  exact ⟨_, _, retOut X hx hret rfl (Or.inr (Or.inr (Or.inl ⟨rfl, rfl, _, rfl⟩))) (hb hby hd) hr, hrun, hended, _, _, rfl, hq, ⟨_, rfl⟩, hW, hsame.mono hc hs⟩
theorem own_retN (X : Stand p l e R s m args below meth c T locs cells slots) (hx : p.tables.exec = Jvm.exec) (hby : c.code = bytes) (hlk : meth.locks = false) {t : FieldType} (hret : meth.sig.returnType = some t) (ht : t = .boolean ∨ t = .byte ∨ t = .char ∨ t = .short) (hd : decode bytes pc = .ok (.ireturn, 1)) (hc : cells ≤ cC) (hs : slots ≤ cS) {z : Int32}
    (hq : Q (some (.int (nar t z))) T.heap locs) : own_Got p e below (own_End s Q cC cS) T (mkF m pc ls (.int z :: st)) := by
  obtain ⟨fs, hr, hrun, hended, hW, hsame⟩ := X.leave (v := some (.int (nar t z))) (fun h => by rw [hret] at h; cases h) hlk
  exact ⟨_, _, retN X hx hret ht (hb hby hd) hr, hrun, hended, _, _, rfl, hq, ⟨_, rfl⟩, hW, hsame.mono hc hs⟩
theorem own_retR (X : Stand p l e R s m args below meth c T locs cells slots) (hx : p.tables.exec = Jvm.exec) (hby : c.code = bytes) (hlk : meth.locks = false) {t : FieldType} (hret : meth.sig.returnType = some t) (ht : t.isReference = true) (hd : decode bytes pc = .ok (.areturn, 1)) (hc : cells ≤ cC) (hs : slots ≤ cS) {w : Value} (hw : w.isRef = true)
    (hq : Q (some w) T.heap locs) : own_Got p e below (own_End s Q cC cS) T (mkF m pc ls (w :: st)) := by
  obtain ⟨fs, hr, hrun, hended, hW, hsame⟩ := X.leave (v := some w) (fun h => by rw [hret] at h; cases h) hlk
  have hn : narrow t w = w := by rcases ref_cases hw with rfl | ⟨a, rfl⟩ <;> cases t <;> first | rfl | (cases ht)
  exact ⟨_, _, retOut X hx hret hn (Or.inr (Or.inr (Or.inr (Or.inr ⟨rfl, ht, hw⟩)))) (hb hby hd) hr, hrun, hended, _, _, rfl, hq, ⟨_, rfl⟩, hW, hsame.mono hc hs⟩
theorem g_iloadN (X : Stand p l e R s m args below meth c T locs cells slots) (hx : p.tables.exec = Jvm.exec) (hby : c.code = bytes) {k : Fin 4} {v : Int32} (hd : decode bytes pc = .ok (.iload_n k, 1)) (hl : ls[k.val]? = some (.val (.int v))) (hp : pc + 1 = pc')
    (k : own_Got p e below P T (mkF m pc' ls (.int v :: st))) : own_Got p e below P T (mkF m pc ls (st)) := by
  subst hp; exact own_go (fun _ q => XS.iloadN X.here hx rfl (hb hby hd) hl q) k
theorem g_iload (X : Stand p l e R s m args below meth c T locs cells slots) (hx : p.tables.exec = Jvm.exec) (hby : c.code = bytes) {k : Nat} {v : Int32} (hd : decode bytes pc = .ok (.iload k, 2)) (hl : ls[k]? = some (.val (.int v))) (hp : pc + 2 = pc')
    (k : own_Got p e below P T (mkF m pc' ls (.int v :: st))) : own_Got p e below P T (mkF m pc ls (st)) := by
  subst hp; exact own_go (fun _ q => XS.iload X.here hx rfl (hb hby hd) hl q) k
theorem g_lloadN (X : Stand p l e R s m args below meth c T locs cells slots) (hx : p.tables.exec = Jvm.exec) (hby : c.code = bytes) {k : Fin 4} {v : Int64} (hd : decode bytes pc = .ok (.lload_n k, 1)) (hl : ls[k.val]? = some (.val (.long v))) (hp : pc + 1 = pc')
    (k : own_Got p e below P T (mkF m pc' ls (.long v :: st))) : own_Got p e below P T (mkF m pc ls (st)) := by
  subst hp; exact own_go (fun _ q => XS.lloadN X.here hx rfl (hb hby hd) hl q) k
theorem g_lload (X : Stand p l e R s m args below meth c T locs cells slots) (hx : p.tables.exec = Jvm.exec) (hby : c.code = bytes) {k : Nat} {v : Int64} (hd : decode bytes pc = .ok (.lload k, 2)) (hl : ls[k]? = some (.val (.long v))) (hp : pc + 2 = pc')
    (k : own_Got p e below P T (mkF m pc' ls (.long v :: st))) : own_Got p e below P T (mkF m pc ls (st)) := by
  subst hp; exact own_go (fun _ q => XS.lload X.here hx rfl (hb hby hd) hl q) k
theorem g_dloadN (X : Stand p l e R s m args below meth c T locs cells slots) (hx : p.tables.exec = Jvm.exec) (hby : c.code = bytes) {k : Fin 4} {v : UInt64} (hd : decode bytes pc = .ok (.dload_n k, 1)) (hl : ls[k.val]? = some (.val (.double v))) (hp : pc + 1 = pc')
    (k : own_Got p e below P T (mkF m pc' ls (.double v :: st))) : own_Got p e below P T (mkF m pc ls (st)) := by
  subst hp; exact own_go (fun _ q => XS.dloadN X.here hx rfl (hb hby hd) hl q) k
theorem g_dload (X : Stand p l e R s m args below meth c T locs cells slots) (hx : p.tables.exec = Jvm.exec) (hby : c.code = bytes) {k : Nat} {v : UInt64} (hd : decode bytes pc = .ok (.dload k, 2)) (hl : ls[k]? = some (.val (.double v))) (hp : pc + 2 = pc')
    (k : own_Got p e below P T (mkF m pc' ls (.double v :: st))) : own_Got p e below P T (mkF m pc ls (st)) := by
  subst hp; exact own_go (fun _ q => XS.dload X.here hx rfl (hb hby hd) hl q) k
theorem g_aloadN (X : Stand p l e R s m args below meth c T locs cells slots) (hx : p.tables.exec = Jvm.exec) (hby : c.code = bytes) {k : Fin 4} {v : Value} (hd : decode bytes pc = .ok (.aload_n k, 1)) (hl : ls[k.val]? = some (.val v)) (hv : v.isRef = true) (hp : pc + 1 = pc')
    (k : own_Got p e below P T (mkF m pc' ls (v :: st))) : own_Got p e below P T (mkF m pc ls (st)) := by
  subst hp; exact own_go (fun _ q => XS.aloadN X.here hx rfl (hb hby hd) hl hv q) k
theorem g_aload (X : Stand p l e R s m args below meth c T locs cells slots) (hx : p.tables.exec = Jvm.exec) (hby : c.code = bytes) {k : Nat} {v : Value} (hd : decode bytes pc = .ok (.aload k, 2)) (hl : ls[k]? = some (.val v)) (hv : v.isRef = true) (hp : pc + 2 = pc')
    (k : own_Got p e below P T (mkF m pc' ls (v :: st))) : own_Got p e below P T (mkF m pc ls (st)) := by
  subst hp; exact own_go (fun _ q => XS.aload X.here hx rfl (hb hby hd) hl hv q) k
theorem g_istoreN (X : Stand p l e R s m args below meth c T locs cells slots) (hx : p.tables.exec = Jvm.exec) (hby : c.code = bytes) {k : Fin 4} {x : Int32} (ls' : Array Slot) (hd : decode bytes pc = .ok (.istore_n k, 1)) (hl : storeLocals ls k.val (.int x) = some ls') (hp : pc + 1 = pc')
    (k : own_Got p e below P T (mkF m pc' ls' (st))) : own_Got p e below P T (mkF m pc ls (.int x :: st)) := by
  subst hp; exact own_go (fun _ q => XS.istoreN X.here hx rfl (hb hby hd) rfl hl q) k
theorem g_istore (X : Stand p l e R s m args below meth c T locs cells slots) (hx : p.tables.exec = Jvm.exec) (hby : c.code = bytes) {k : Nat} {x : Int32} (ls' : Array Slot) (hd : decode bytes pc = .ok (.istore k, 2)) (hl : storeLocals ls k (.int x) = some ls') (hp : pc + 2 = pc')
    (k : own_Got p e below P T (mkF m pc' ls' (st))) : own_Got p e below P T (mkF m pc ls (.int x :: st)) := by
  subst hp; exact own_go (fun _ q => XS.istore X.here hx rfl (hb hby hd) rfl hl q) k
theorem g_lstoreN (X : Stand p l e R s m args below meth c T locs cells slots) (hx : p.tables.exec = Jvm.exec) (hby : c.code = bytes) {k : Fin 4} {x : Int64} (ls' : Array Slot) (hd : decode bytes pc = .ok (.lstore_n k, 1)) (hl : storeLocals ls k.val (.long x) = some ls') (hp : pc + 1 = pc')
    (k : own_Got p e below P T (mkF m pc' ls' (st))) : own_Got p e below P T (mkF m pc ls (.long x :: st)) := by
  subst hp; exact own_go (fun _ q => XS.lstoreN X.here hx rfl (hb hby hd) rfl hl q) k
theorem g_lstore (X : Stand p l e R s m args below meth c T locs cells slots) (hx : p.tables.exec = Jvm.exec) (hby : c.code = bytes) {k : Nat} {x : Int64} (ls' : Array Slot) (hd : decode bytes pc = .ok (.lstore k, 2)) (hl : storeLocals ls k (.long x) = some ls') (hp : pc + 2 = pc')
    (k : own_Got p e below P T (mkF m pc' ls' (st))) : own_Got p e below P T (mkF m pc ls (.long x :: st)) := by
  subst hp; exact own_go (fun _ q => XS.lstore X.here hx rfl (hb hby hd) rfl hl q) k
theorem g_dstoreN (X : Stand p l e R s m args below meth c T locs cells slots) (hx : p.tables.exec = Jvm.exec) (hby : c.code = bytes) {k : Fin 4} {x : UInt64} (ls' : Array Slot) (hd : decode bytes pc = .ok (.dstore_n k, 1)) (hl : storeLocals ls k.val (.double x) = some ls') (hp : pc + 1 = pc')
    (k : own_Got p e below P T (mkF m pc' ls' (st))) : own_Got p e below P T (mkF m pc ls (.double x :: st)) := by
  subst hp; exact own_go (fun _ q => XS.dstoreN X.here hx rfl (hb hby hd) rfl hl q) k
theorem g_dstore (X : Stand p l e R s m args below meth c T locs cells slots) (hx : p.tables.exec = Jvm.exec) (hby : c.code = bytes) {k : Nat} {x : UInt64} (ls' : Array Slot) (hd : decode bytes pc = .ok (.dstore k, 2)) (hl : storeLocals ls k (.double x) = some ls') (hp : pc + 2 = pc')
    (k : own_Got p e below P T (mkF m pc' ls' (st))) : own_Got p e below P T (mkF m pc ls (.double x :: st)) := by
  subst hp; exact own_go (fun _ q => XS.dstore X.here hx rfl (hb hby hd) rfl hl q) k
theorem g_astoreN (X : Stand p l e R s m args below meth c T locs cells slots) (hx : p.tables.exec = Jvm.exec) (hby : c.code = bytes) {k : Fin 4} {x : Value} (ls' : Array Slot) (hd : decode bytes pc = .ok (.astore_n k, 1)) (hv : x.isRef = true) (hl : storeLocals ls k.val x = some ls') (hp : pc + 1 = pc')
    (k : own_Got p e below P T (mkF m pc' ls' (st))) : own_Got p e below P T (mkF m pc ls (x :: st)) := by
  subst hp; exact own_go (fun _ q => XS.astoreN X.here hx rfl (hb hby hd) rfl hv hl q) k
theorem g_astore (X : Stand p l e R s m args below meth c T locs cells slots) (hx : p.tables.exec = Jvm.exec) (hby : c.code = bytes) {k : Nat} {x : Value} (ls' : Array Slot) (hd : decode bytes pc = .ok (.astore k, 2)) (hv : x.isRef = true) (hl : storeLocals ls k x = some ls') (hp : pc + 2 = pc')
    (k : own_Got p e below P T (mkF m pc' ls' (st))) : own_Got p e below P T (mkF m pc ls (x :: st)) := by
  subst hp; exact own_go (fun _ q => XS.astore X.here hx rfl (hb hby hd) rfl hv hl q) k
theorem g_iconst (X : Stand p l e R s m args below meth c T locs cells slots) (hx : p.tables.exec = Jvm.exec) (hby : c.code = bytes) {i : Int} (z : Int32) (hd : decode bytes pc = .ok (.iconst i, 1)) (hz : Int32.ofInt i = z) (hp : pc + 1 = pc')
    (k : own_Got p e below P T (mkF m pc' ls (.int z :: st))) : own_Got p e below P T (mkF m pc ls (st)) := by
  subst hp; subst hz; exact own_go (fun _ q => XS.iconst X.here hx rfl (hb hby hd) q) k
theorem g_bipush (X : Stand p l e R s m args below meth c T locs cells slots) (hx : p.tables.exec = Jvm.exec) (hby : c.code = bytes) {i : Int} (z : Int32) (hd : decode bytes pc = .ok (.bipush i, 2)) (hz : (Int8.ofInt i).toInt32 = z) (hp : pc + 2 = pc')
    (k : own_Got p e below P T (mkF m pc' ls (.int z :: st))) : own_Got p e below P T (mkF m pc ls (st)) := by
  subst hp; subst hz; exact own_go (fun _ q => XS.bipush X.here hx rfl (hb hby hd) q) k
theorem g_sipush (X : Stand p l e R s m args below meth c T locs cells slots) (hx : p.tables.exec = Jvm.exec) (hby : c.code = bytes) {i : Int} (z : Int32) (hd : decode bytes pc = .ok (.sipush i, 3)) (hz : (Int16.ofInt i).toInt32 = z) (hp : pc + 3 = pc')
    (k : own_Got p e below P T (mkF m pc' ls (.int z :: st))) : own_Got p e below P T (mkF m pc ls (st)) := by
  subst hp; subst hz; exact own_go (fun _ q => XS.sipush X.here hx rfl (hb hby hd) q) k
theorem g_lconst (X : Stand p l e R s m args below meth c T locs cells slots) (hx : p.tables.exec = Jvm.exec) (hby : c.code = bytes) {i : Fin 2} (z : Int64) (hd : decode bytes pc = .ok (.lconst i, 1)) (hz : Int64.ofNat i.val = z) (hp : pc + 1 = pc')
    (k : own_Got p e below P T (mkF m pc' ls (.long z :: st))) : own_Got p e below P T (mkF m pc ls (st)) := by
  subst hp; subst hz; exact own_go (fun _ q => XS.lconst X.here hx rfl (hb hby hd) q) k
theorem g_anull (X : Stand p l e R s m args below meth c T locs cells slots) (hx : p.tables.exec = Jvm.exec) (hby : c.code = bytes)  (hd : decode bytes pc = .ok (.aconst_null, 1))  (hp : pc + 1 = pc')
    (k : own_Got p e below P T (mkF m pc' ls (.null :: st))) : own_Got p e below P T (mkF m pc ls (st)) := by
  subst hp; exact own_go (fun _ q => XS.aconstNull X.here hx rfl (hb hby hd) q) k
theorem g_iadd (X : Stand p l e R s m args below meth c T locs cells slots) (hx : p.tables.exec = Jvm.exec) (hby : c.code = bytes) {x y : Int32} (hd : decode bytes pc = .ok (.iadd, 1))  (hp : pc + 1 = pc')
    (k : own_Got p e below P T (mkF m pc' ls (.int (x + y) :: st))) : own_Got p e below P T (mkF m pc ls (.int y :: .int x :: st)) := by
  subst hp; exact own_go (fun _ q => XS.iadd X.here hx rfl (hb hby hd) rfl q) k
theorem g_isub (X : Stand p l e R s m args below meth c T locs cells slots) (hx : p.tables.exec = Jvm.exec) (hby : c.code = bytes) {x y : Int32} (hd : decode bytes pc = .ok (.isub, 1))  (hp : pc + 1 = pc')
    (k : own_Got p e below P T (mkF m pc' ls (.int (x - y) :: st))) : own_Got p e below P T (mkF m pc ls (.int y :: .int x :: st)) := by
  subst hp; exact own_go (fun _ q => XS.isub X.here hx rfl (hb hby hd) rfl q) k
theorem g_iand (X : Stand p l e R s m args below meth c T locs cells slots) (hx : p.tables.exec = Jvm.exec) (hby : c.code = bytes) {x y : Int32} (hd : decode bytes pc = .ok (.iand, 1))  (hp : pc + 1 = pc')
    (k : own_Got p e below P T (mkF m pc' ls (.int (x &&& y) :: st))) : own_Got p e below P T (mkF m pc ls (.int y :: .int x :: st)) := by
  subst hp; exact own_go (fun _ q => XS.iand X.here hx rfl (hb hby hd) rfl q) k
theorem g_ior (X : Stand p l e R s m args below meth c T locs cells slots) (hx : p.tables.exec = Jvm.exec) (hby : c.code = bytes) {x y : Int32} (hd : decode bytes pc = .ok (.ior, 1))  (hp : pc + 1 = pc')
    (k : own_Got p e below P T (mkF m pc' ls (.int (x ||| y) :: st))) : own_Got p e below P T (mkF m pc ls (.int y :: .int x :: st)) := by
  subst hp; exact own_go (fun _ q => XS.ior X.here hx rfl (hb hby hd) rfl q) k
theorem g_ixor (X : Stand p l e R s m args below meth c T locs cells slots) (hx : p.tables.exec = Jvm.exec) (hby : c.code = bytes) {x y : Int32} (hd : decode bytes pc = .ok (.ixor, 1))  (hp : pc + 1 = pc')
    (k : own_Got p e below P T (mkF m pc' ls (.int (x ^^^ y) :: st))) : own_Got p e below P T (mkF m pc ls (.int y :: .int x :: st)) := by
  subst hp; exact own_go (fun _ q => XS.ixor X.here hx rfl (hb hby hd) rfl q) k
theorem g_imul (X : Stand p l e R s m args below meth c T locs cells slots) (hx : p.tables.exec = Jvm.exec) (hby : c.code = bytes) {x y : Int32} (hd : decode bytes pc = .ok (.imul, 1))  (hp : pc + 1 = pc')
    (k : own_Got p e below P T (mkF m pc' ls (.int (x * y) :: st))) : own_Got p e below P T (mkF m pc ls (.int y :: .int x :: st)) := by
  subst hp; exact own_go (fun _ q => XS.imul X.here hx rfl (hb hby hd) rfl q) k
theorem g_ladd (X : Stand p l e R s m args below meth c T locs cells slots) (hx : p.tables.exec = Jvm.exec) (hby : c.code = bytes) {x y : Int64} (hd : decode bytes pc = .ok (.ladd, 1))  (hp : pc + 1 = pc')
    (k : own_Got p e below P T (mkF m pc' ls (.long (x + y) :: st))) : own_Got p e below P T (mkF m pc ls (.long y :: .long x :: st)) := by
  subst hp; exact own_go (fun _ q => XS.ladd X.here hx rfl (hb hby hd) rfl q) k
theorem g_lsub (X : Stand p l e R s m args below meth c T locs cells slots) (hx : p.tables.exec = Jvm.exec) (hby : c.code = bytes) {x y : Int64} (hd : decode bytes pc = .ok (.lsub, 1))  (hp : pc + 1 = pc')
    (k : own_Got p e below P T (mkF m pc' ls (.long (x - y) :: st))) : own_Got p e below P T (mkF m pc ls (.long y :: .long x :: st)) := by
  subst hp; exact own_go (fun _ q => XS.lsub X.here hx rfl (hb hby hd) rfl q) k
theorem g_land (X : Stand p l e R s m args below meth c T locs cells slots) (hx : p.tables.exec = Jvm.exec) (hby : c.code = bytes) {x y : Int64} (hd : decode bytes pc = .ok (.land, 1))  (hp : pc + 1 = pc')
    (k : own_Got p e below P T (mkF m pc' ls (.long (x &&& y) :: st))) : own_Got p e below P T (mkF m pc ls (.long y :: .long x :: st)) := by
  subst hp; exact own_go (fun _ q => XS.land X.here hx rfl (hb hby hd) rfl q) k
theorem g_lor (X : Stand p l e R s m args below meth c T locs cells slots) (hx : p.tables.exec = Jvm.exec) (hby : c.code = bytes) {x y : Int64} (hd : decode bytes pc = .ok (.lor, 1))  (hp : pc + 1 = pc')
    (k : own_Got p e below P T (mkF m pc' ls (.long (x ||| y) :: st))) : own_Got p e below P T (mkF m pc ls (.long y :: .long x :: st)) := by
  subst hp; exact own_go (fun _ q => XS.lor X.here hx rfl (hb hby hd) rfl q) k
theorem g_lxor (X : Stand p l e R s m args below meth c T locs cells slots) (hx : p.tables.exec = Jvm.exec) (hby : c.code = bytes) {x y : Int64} (hd : decode bytes pc = .ok (.lxor, 1))  (hp : pc + 1 = pc')
    (k : own_Got p e below P T (mkF m pc' ls (.long (x ^^^ y) :: st))) : own_Got p e below P T (mkF m pc ls (.long y :: .long x :: st)) := by
  subst hp; exact own_go (fun _ q => XS.lxor X.here hx rfl (hb hby hd) rfl q) k
theorem g_lmul (X : Stand p l e R s m args below meth c T locs cells slots) (hx : p.tables.exec = Jvm.exec) (hby : c.code = bytes) {x y : Int64} (hd : decode bytes pc = .ok (.lmul, 1))  (hp : pc + 1 = pc')
    (k : own_Got p e below P T (mkF m pc' ls (.long (x * y) :: st))) : own_Got p e below P T (mkF m pc ls (.long y :: .long x :: st)) := by
  subst hp; exact own_go (fun _ q => XS.lmul X.here hx rfl (hb hby hd) rfl q) k
theorem g_idiv (X : Stand p l e R s m args below meth c T locs cells slots) (hx : p.tables.exec = Jvm.exec) (hby : c.code = bytes) {x y : Int32} (hd : decode bytes pc = .ok (.idiv, 1)) (hy : y ≠ 0) (hp : pc + 1 = pc')
    (k : own_Got p e below P T (mkF m pc' ls (.int (x / y) :: st))) : own_Got p e below P T (mkF m pc ls (.int y :: .int x :: st)) := by
  subst hp; exact own_go (fun _ q => XS.idiv X.here hx rfl (hb hby hd) rfl hy q) k
theorem g_irem (X : Stand p l e R s m args below meth c T locs cells slots) (hx : p.tables.exec = Jvm.exec) (hby : c.code = bytes) {x y : Int32} (hd : decode bytes pc = .ok (.irem, 1)) (hy : y ≠ 0) (hp : pc + 1 = pc')
    (k : own_Got p e below P T (mkF m pc' ls (.int (x % y) :: st))) : own_Got p e below P T (mkF m pc ls (.int y :: .int x :: st)) := by
  subst hp; exact own_go (fun _ q => iremM X hx rfl (hb hby hd) rfl hy q) k
theorem g_ishl (X : Stand p l e R s m args below meth c T locs cells slots) (hx : p.tables.exec = Jvm.exec) (hby : c.code = bytes) {x y : Int32} (hd : decode bytes pc = .ok (.ishl, 1))  (hp : pc + 1 = pc')
    (k : own_Got p e below P T (mkF m pc' ls (.int (x <<< (y &&& 31)) :: st))) : own_Got p e below P T (mkF m pc ls (.int y :: .int x :: st)) := by
  subst hp; exact own_go (fun _ q => XS.ishl X.here hx rfl (hb hby hd) rfl q) k
theorem g_ishr (X : Stand p l e R s m args below meth c T locs cells slots) (hx : p.tables.exec = Jvm.exec) (hby : c.code = bytes) {x y : Int32} (hd : decode bytes pc = .ok (.ishr, 1))  (hp : pc + 1 = pc')
    (k : own_Got p e below P T (mkF m pc' ls (.int (x >>> (y &&& 31)) :: st))) : own_Got p e below P T (mkF m pc ls (.int y :: .int x :: st)) := by
  subst hp; exact own_go (fun _ q => XS.ishr X.here hx rfl (hb hby hd) rfl q) k
theorem g_iushr (X : Stand p l e R s m args below meth c T locs cells slots) (hx : p.tables.exec = Jvm.exec) (hby : c.code = bytes) {x y : Int32} (hd : decode bytes pc = .ok (.iushr, 1))  (hp : pc + 1 = pc')
    (k : own_Got p e below P T (mkF m pc' ls (.int ((x.toUInt32 >>> (y &&& 31).toUInt32).toInt32) :: st))) : own_Got p e below P T (mkF m pc ls (.int y :: .int x :: st)) := by
  subst hp; exact own_go (fun _ q => XS.iushr X.here hx rfl (hb hby hd) rfl q) k
theorem g_ineg (X : Stand p l e R s m args below meth c T locs cells slots) (hx : p.tables.exec = Jvm.exec) (hby : c.code = bytes) {x : Int32} (hd : decode bytes pc = .ok (.ineg, 1))  (hp : pc + 1 = pc')
    (k : own_Got p e below P T (mkF m pc' ls (.int (-x) :: st))) : own_Got p e below P T (mkF m pc ls (.int x :: st)) := by
  subst hp; exact own_go (fun _ q => XS.ineg X.here hx rfl (hb hby hd) rfl q) k
theorem g_i2b (X : Stand p l e R s m args below meth c T locs cells slots) (hx : p.tables.exec = Jvm.exec) (hby : c.code = bytes) {x : Int32} (hd : decode bytes pc = .ok (.i2b, 1))  (hp : pc + 1 = pc')
    (k : own_Got p e below P T (mkF m pc' ls (.int x.toInt8.toInt32 :: st))) : own_Got p e below P T (mkF m pc ls (.int x :: st)) := by
  subst hp; exact own_go (fun _ q => XS.i2b X.here hx rfl (hb hby hd) rfl q) k
theorem g_i2s (X : Stand p l e R s m args below meth c T locs cells slots) (hx : p.tables.exec = Jvm.exec) (hby : c.code = bytes) {x : Int32} (hd : decode bytes pc = .ok (.i2s, 1))  (hp : pc + 1 = pc')
    (k : own_Got p e below P T (mkF m pc' ls (.int x.toInt16.toInt32 :: st))) : own_Got p e below P T (mkF m pc ls (.int x :: st)) := by
  subst hp; exact own_go (fun _ q => XS.i2s X.here hx rfl (hb hby hd) rfl q) k
theorem g_i2c (X : Stand p l e R s m args below meth c T locs cells slots) (hx : p.tables.exec = Jvm.exec) (hby : c.code = bytes) {x : Int32} (hd : decode bytes pc = .ok (.i2c, 1))  (hp : pc + 1 = pc')
    (k : own_Got p e below P T (mkF m pc' ls (.int x.toUInt32.toUInt16.toUInt32.toInt32 :: st))) : own_Got p e below P T (mkF m pc ls (.int x :: st)) := by
  subst hp; exact own_go (fun _ q => XS.i2c X.here hx rfl (hb hby hd) rfl q) k
theorem g_i2l (X : Stand p l e R s m args below meth c T locs cells slots) (hx : p.tables.exec = Jvm.exec) (hby : c.code = bytes) {x : Int32} (hd : decode bytes pc = .ok (.i2l, 1))  (hp : pc + 1 = pc')
    (k : own_Got p e below P T (mkF m pc' ls (.long x.toInt64 :: st))) : own_Got p e below P T (mkF m pc ls (.int x :: st)) := by
  subst hp; exact own_go (fun _ q => XS.i2l X.here hx rfl (hb hby hd) rfl q) k
theorem g_lcmp (X : Stand p l e R s m args below meth c T locs cells slots) (hx : p.tables.exec = Jvm.exec) (hby : c.code = bytes) {x y : Int64} (hd : decode bytes pc = .ok (.lcmp, 1))  (hp : pc + 1 = pc')
    (k : own_Got p e below P T (mkF m pc' ls (.int (lcmpW x y) :: st))) : own_Got p e below P T (mkF m pc ls (.long y :: .long x :: st)) := by
  subst hp; exact own_go (fun _ q => XS.lcmp X.here hx rfl (hb hby hd) rfl q) k
theorem g_iinc (X : Stand p l e R s m args below meth c T locs cells slots) (hx : p.tables.exec = Jvm.exec) (hby : c.code = bytes) {k : Nat} {cst : Int} {x : Int32} (ls' : Array Slot) (hd : decode bytes pc = .ok (.iinc k cst, 3)) (hl : ls[k]? = some (.val (.int x))) (hl' : storeLocals ls k (.int (x + Int32.ofInt cst)) = some ls') (hp : pc + 3 = pc')
    (k : own_Got p e below P T (mkF m pc' ls' (st))) : own_Got p e below P T (mkF m pc ls (st)) := by
  subst hp; exact own_go (fun _ q => XS.iinc X.here hx rfl (hb hby hd) hl hl' q) k
theorem g_dup (X : Stand p l e R s m args below meth c T locs cells slots) (hx : p.tables.exec = Jvm.exec) (hby : c.code = bytes) {x : Value} (hd : decode bytes pc = .ok (.dup, 1)) (hc : x.category = 1) (hp : pc + 1 = pc')
    (k : own_Got p e below P T (mkF m pc' ls (x :: x :: st))) : own_Got p e below P T (mkF m pc ls (x :: st)) := by
  subst hp; exact own_go (fun _ q => XS.dup X.here hx rfl (hb hby hd) rfl hc q) k
theorem g_dupX1 (X : Stand p l e R s m args below meth c T locs cells slots) (hx : p.tables.exec = Jvm.exec) (hby : c.code = bytes) {x y : Value} (hd : decode bytes pc = .ok (.dup_x1, 1)) (hc : x.category = 1) (hc2 : y.category = 1) (hp : pc + 1 = pc')
    (k : own_Got p e below P T (mkF m pc' ls (x :: y :: x :: st))) : own_Got p e below P T (mkF m pc ls (x :: y :: st)) := by
  subst hp; exact own_go (fun _ q => XS.dupX1 X.here hx rfl (hb hby hd) rfl hc hc2 q) k
theorem g_pop (X : Stand p l e R s m args below meth c T locs cells slots) (hx : p.tables.exec = Jvm.exec) (hby : c.code = bytes) {x : Value} (hd : decode bytes pc = .ok (.pop, 1)) (hc : x.category = 1) (hp : pc + 1 = pc')
    (k : own_Got p e below P T (mkF m pc' ls (st))) : own_Got p e below P T (mkF m pc ls (x :: st)) := by
  subst hp; exact own_go (fun _ q => XS.pop X.here hx rfl (hb hby hd) rfl hc q) k
theorem g_dup2 (X : Stand p l e R s m args below meth c T locs cells slots) (hx : p.tables.exec = Jvm.exec) (hby : c.code = bytes) {x y : Value} (hd : decode bytes pc = .ok (.dup2, 1)) (hc : x.category = 1) (hc2 : y.category = 1) (hp : pc + 1 = pc')
    (k : own_Got p e below P T (mkF m pc' ls (x :: y :: x :: y :: st))) : own_Got p e below P T (mkF m pc ls (x :: y :: st)) := by
  subst hp; exact own_go (fun _ q => XT.dup2 X.here hx rfl (hb hby hd) rfl hc hc2 q) k
theorem g_goto (X : Stand p l e R s m args below meth c T locs cells slots) (hx : p.tables.exec = Jvm.exec) (hby : c.code = bytes) {o : Int} (hd : decode bytes pc = .ok (.goto o, 3))  (ho : 0 ≤ (pc : Int) + o) (hp : ((pc : Int) + o).toNat = pc')
    (k : own_Got p e below P T (mkF m pc' ls (st))) : own_Got p e below P T (mkF m pc ls (st)) := by
  exact own_go (fun _ q => XS.goto X.here hx rfl rfl (hb hby hd) ho hp q) k
theorem g_ifT (X : Stand p l e R s m args below meth c T locs cells slots) (hx : p.tables.exec = Jvm.exec) (hby : c.code = bytes) {cd : ClassFile.Cond} {x : Int32} {o : Int} (hd : decode bytes pc = .ok (.ifCond cd o, 3)) (hc : ifCond.holds cd x = true) (ho : 0 ≤ (pc : Int) + o) (hp : ((pc : Int) + o).toNat = pc')
    (k : own_Got p e below P T (mkF m pc' ls (st))) : own_Got p e below P T (mkF m pc ls (.int x :: st)) := by
  exact own_go (fun _ q => XS.ifYes X.here hx rfl rfl (hb hby hd) rfl hc ho hp q) k
theorem g_icT (X : Stand p l e R s m args below meth c T locs cells slots) (hx : p.tables.exec = Jvm.exec) (hby : c.code = bytes) {cd : ClassFile.Cond} {x y : Int32} {o : Int} (hd : decode bytes pc = .ok (.if_icmp cd o, 3)) (hc : if_icmp.holds cd x y = true) (ho : 0 ≤ (pc : Int) + o) (hp : ((pc : Int) + o).toNat = pc')
    (k : own_Got p e below P T (mkF m pc' ls (st))) : own_Got p e below P T (mkF m pc ls (.int y :: .int x :: st)) := by
  exact own_go (fun _ q => XS.icmpYes X.here hx rfl rfl (hb hby hd) rfl hc ho hp q) k
theorem g_inT (X : Stand p l e R s m args below meth c T locs cells slots) (hx : p.tables.exec = Jvm.exec) (hby : c.code = bytes) {o : Int} (hd : decode bytes pc = .ok (.ifnull o, 3))  (ho : 0 ≤ (pc : Int) + o) (hp : ((pc : Int) + o).toNat = pc')
    (k : own_Got p e below P T (mkF m pc' ls (st))) : own_Got p e below P T (mkF m pc ls (.null :: st)) := by
  exact own_go (fun _ q => XS.ifnullYes X.here hx rfl rfl (hb hby hd) rfl ho hp q) k
theorem g_innT (X : Stand p l e R s m args below meth c T locs cells slots) (hx : p.tables.exec = Jvm.exec) (hby : c.code = bytes) {b : Addr} {o : Int} (hd : decode bytes pc = .ok (.ifnonnull o, 3))  (ho : 0 ≤ (pc : Int) + o) (hp : ((pc : Int) + o).toNat = pc')
    (k : own_Got p e below P T (mkF m pc' ls (st))) : own_Got p e below P T (mkF m pc ls (.ref b :: st)) := by
  exact own_go (fun _ q => XS.ifnonnullYes X.here hx rfl rfl (hb hby hd) rfl ho hp q) k
theorem g_ifF (X : Stand p l e R s m args below meth c T locs cells slots) (hx : p.tables.exec = Jvm.exec) (hby : c.code = bytes) {cd : ClassFile.Cond} {o : Int} {x : Int32} (hd : decode bytes pc = .ok (.ifCond cd o, 3)) (hc : ifCond.holds cd x = false) (hp : pc + 3 = pc')
    (k : own_Got p e below P T (mkF m pc' ls (st))) : own_Got p e below P T (mkF m pc ls (.int x :: st)) := by
  subst hp; exact own_go (fun _ q => XS.ifNo X.here hx rfl (hb hby hd) rfl hc q) k
theorem g_icF (X : Stand p l e R s m args below meth c T locs cells slots) (hx : p.tables.exec = Jvm.exec) (hby : c.code = bytes) {cd : ClassFile.Cond} {o : Int} {x y : Int32} (hd : decode bytes pc = .ok (.if_icmp cd o, 3)) (hc : if_icmp.holds cd x y = false) (hp : pc + 3 = pc')
    (k : own_Got p e below P T (mkF m pc' ls (st))) : own_Got p e below P T (mkF m pc ls (.int y :: .int x :: st)) := by
  subst hp; exact own_go (fun _ q => XS.icmpNo X.here hx rfl (hb hby hd) rfl hc q) k
theorem g_inF (X : Stand p l e R s m args below meth c T locs cells slots) (hx : p.tables.exec = Jvm.exec) (hby : c.code = bytes) {o : Int} {b : Addr} (hd : decode bytes pc = .ok (.ifnull o, 3))  (hp : pc + 3 = pc')
    (k : own_Got p e below P T (mkF m pc' ls (st))) : own_Got p e below P T (mkF m pc ls (.ref b :: st)) := by
  subst hp; exact own_go (fun _ q => XS.ifnullNo X.here hx rfl (hb hby hd) rfl q) k
theorem g_innF (X : Stand p l e R s m args below meth c T locs cells slots) (hx : p.tables.exec = Jvm.exec) (hby : c.code = bytes) {o : Int} (hd : decode bytes pc = .ok (.ifnonnull o, 3))  (hp : pc + 3 = pc')
    (k : own_Got p e below P T (mkF m pc' ls (st))) : own_Got p e below P T (mkF m pc ls (.null :: st)) := by
  subst hp; exact own_go (fun _ q => XS.ifnonnullNo X.here hx rfl (hb hby hd) rfl q) k
theorem g_acmp (X : Stand p l e R s m args below meth c T locs cells slots) (hx : p.tables.exec = Jvm.exec) (hby : c.code = bytes) {cd : ACond} {x y : Value} {o : Int} (same : Bool) (hd : decode bytes pc = .ok (.if_acmp cd o, 3)) (h1 : x.isRef = true) (h2 : y.isRef = true) (hq : decide (x = y) = same) (ho : 0 ≤ (pc : Int) + o) (hp : pc' = if acV cd same = true then ((pc : Int) + o).toNat else pc + 3)
    (k : own_Got p e below P T (mkF m pc' ls st)) : own_Got p e below P T (mkF m pc ls (y :: x :: st)) :=
  own_go (fun _ q => Jvm.RoadKit.acmp X hx rfl h1 h2 rfl (hb hby hd) rfl hq ho hp q) k
theorem g_ldcI (X : Stand p l e R s m args below meth c T locs cells slots) (hx : p.tables.exec = Jvm.exec) (hby : c.code = bytes) (hZ : Z.Warmed39 s.vm) {own : String} {index : Nat} {v : Int32} (hown : s.vm.findClass own = some m.cls) (w : (Cond.constant own index v).before a0 Z = true) (hd : decode bytes pc = .ok (.ldc index, 2)) (hp : pc + 2 = pc')
    (k : own_Got p e below P T (mkF m pc' ls (.int v :: st))) : own_Got p e below P T (mkF m pc ls st) := by
  subst hp; exact own_go (X.ldcInt hx hown (mvT hZ w) rfl (hb hby hd)) k
theorem g_ldc2D (X : Stand p l e R s m args below meth c T locs cells slots) (hx : p.tables.exec = Jvm.exec) (hby : c.code = bytes) (hZ : Z.Warmed39 s.vm) {own : String} {index : Nat} {v : UInt64} (hown : s.vm.findClass own = some m.cls) (w : (Cond.constantDouble own index v).before a0 Z = true) (hd : decode bytes pc = .ok (.ldc2_w index, 3)) (hp : pc + 3 = pc')
    (k : own_Got p e below P T (mkF m pc' ls (.double v :: st))) : own_Got p e below P T (mkF m pc ls st) := by
  subst hp; exact own_go (X.ldc2DoubleC hx hown (mvT hZ w) rfl (hb hby hd)) k
theorem g_alen (X : Stand p l e R s m args below meth c T locs cells slots) (hx : p.tables.exec = Jvm.exec) (hby : c.code = bytes) (hZ : Z.Warmed39 s.vm) (eT : T.heap = h) {a : Addr} {kk : ClassId} {ty : FieldType} {n : Int32} {vs : List Value} {d : Value} (F : Arv Z h a kk ty n vs d) (hd : decode bytes pc = .ok (.arraylength, 1)) (hp : pc + 1 = pc')
    (k : own_Got p e below P T (mkF m pc' ls (.int n :: st))) : own_Got p e below P T (mkF m pc ls (.ref a :: st)) := by
  subst hp
  obtain ⟨cl, Ar, -, S, N, -, -⟩ := F
  refine own_go (fun t q => X.arraylength hx (by rw [eT]; exact Ar.1) (State.isArrayOf_alike hZ.alike Ar.2.1) (g := mkF m pc ls (.ref a :: st)) rfl rfl (hb hby hd) t q) ?_
  rw [len_of S N]; exact k
theorem g_iaload (X : Stand p l e R s m args below meth c T locs cells slots) (hx : p.tables.exec = Jvm.exec) (hby : c.code = bytes) (hZ : Z.Warmed39 s.vm) (eT : T.heap = h) {a : Addr} {kk : ClassId} {n : Int32} {vs : List Value} {d v : Value} {j : Int32} (F : Arv Z h a kk .int n vs d) (hj : ¬ j < 0 ∧ j < n) (hv : vs.getD j.toNatClampNeg d = v) (hd : decode bytes pc = .ok (.iaload, 1)) (hp : pc + 1 = pc')
    (k : own_Got p e below P T (mkF m pc' ls (v :: st))) : own_Got p e below P T (mkF m pc ls (.int j :: .ref a :: st)) := by
  subst hp
  obtain ⟨cl, Ar, -, S, N, H, -⟩ := F
  exact own_go (fun t q => X.iaload hx (by rw [eT]; exact Ar.1) (State.isArrayOf_alike hZ.alike Ar.2.1) Ar.2.2 (inb_of S hj) (H.at (inb_of S hj) hv) (g := mkF m pc ls (.int j :: .ref a :: st)) rfl rfl (hb hby hd) t q) k
theorem g_caload (X : Stand p l e R s m args below meth c T locs cells slots) (hx : p.tables.exec = Jvm.exec) (hby : c.code = bytes) (hZ : Z.Warmed39 s.vm) (eT : T.heap = h) {a : Addr} {kk : ClassId} {n : Int32} {vs : List Value} {d v : Value} {j : Int32} (F : Arv Z h a kk .char n vs d) (hj : ¬ j < 0 ∧ j < n) (hv : vs.getD j.toNatClampNeg d = v) (hd : decode bytes pc = .ok (.caload, 1)) (hp : pc + 1 = pc')
    (k : own_Got p e below P T (mkF m pc' ls (v :: st))) : own_Got p e below P T (mkF m pc ls (.int j :: .ref a :: st)) := by
  subst hp
  obtain ⟨cl, Ar, -, S, N, H, -⟩ := F
  exact own_go (fun t q => X.caload hx (by rw [eT]; exact Ar.1) (State.isArrayOf_alike hZ.alike Ar.2.1) Ar.2.2 (inb_of S hj) (H.at (inb_of S hj) hv) (g := mkF m pc ls (.int j :: .ref a :: st)) rfl rfl (hb hby hd) t q) k
theorem g_laload (X : Stand p l e R s m args below meth c T locs cells slots) (hx : p.tables.exec = Jvm.exec) (hby : c.code = bytes) (hZ : Z.Warmed39 s.vm) (eT : T.heap = h) {a : Addr} {kk : ClassId} {n : Int32} {vs : List Value} {d v : Value} {j : Int32} (F : Arv Z h a kk .long n vs d) (hj : ¬ j < 0 ∧ j < n) (hv : vs.getD j.toNatClampNeg d = v) (hd : decode bytes pc = .ok (.laload, 1)) (hp : pc + 1 = pc')
    (k : own_Got p e below P T (mkF m pc' ls (v :: st))) : own_Got p e below P T (mkF m pc ls (.int j :: .ref a :: st)) := by
  subst hp
  obtain ⟨cl, Ar, -, S, N, H, -⟩ := F
  exact own_go (fun t q => X.laload hx (by rw [eT]; exact Ar.1) (State.isArrayOf_alike hZ.alike Ar.2.1) Ar.2.2 (inb_of S hj) (H.at (inb_of S hj) hv) (g := mkF m pc ls (.int j :: .ref a :: st)) rfl rfl (hb hby hd) t q) k
theorem g_baload (X : Stand p l e R s m args below meth c T locs cells slots) (hx : p.tables.exec = Jvm.exec) (hby : c.code = bytes) (hZ : Z.Warmed39 s.vm) (eT : T.heap = h) {a : Addr} {kk : ClassId} {n : Int32} {vs : List Value} {d v : Value} {j : Int32} (F : Arv Z h a kk .byte n vs d) (hj : ¬ j < 0 ∧ j < n) (hv : vs.getD j.toNatClampNeg d = v) (hd : decode bytes pc = .ok (.baload, 1)) (hp : pc + 1 = pc')
    (k : own_Got p e below P T (mkF m pc' ls (v :: st))) : own_Got p e below P T (mkF m pc ls (.int j :: .ref a :: st)) := by
  subst hp
  obtain ⟨cl, Ar, -, S, N, H, -⟩ := F
  exact own_go (fun t q => X.baloadBytes hx (by rw [eT]; exact Ar.1) (State.isArrayOf_alike hZ.alike Ar.2.1) Ar.2.2 (inb_of S hj) (H.at (inb_of S hj) hv) (g := mkF m pc ls (.int j :: .ref a :: st)) rfl rfl (hb hby hd) t q) k
theorem g_daload (X : Stand p l e R s m args below meth c T locs cells slots) (hx : p.tables.exec = Jvm.exec) (hby : c.code = bytes) (hZ : Z.Warmed39 s.vm) (eT : T.heap = h) {a : Addr} {kk : ClassId} {n : Int32} {vs : List Value} {d v : Value} {j : Int32} (F : Arv Z h a kk .double n vs d) (hj : ¬ j < 0 ∧ j < n) (hv : vs.getD j.toNatClampNeg d = v) (hd : decode bytes pc = .ok (.daload, 1)) (hp : pc + 1 = pc')
    (k : own_Got p e below P T (mkF m pc' ls (v :: st))) : own_Got p e below P T (mkF m pc ls (.int j :: .ref a :: st)) := by
  subst hp
  obtain ⟨cl, Ar, -, S, N, H, -⟩ := F
  exact own_go (fun t q => X.daload hx (by rw [eT]; exact Ar.1) (State.isArrayOf_alike hZ.alike Ar.2.1) Ar.2.2 (inb_of S hj) (H.at (inb_of S hj) hv) (g := mkF m pc ls (.int j :: .ref a :: st)) rfl rfl (hb hby hd) t q) k
theorem g_aaload (X : Stand p l e R s m args below meth c T locs cells slots) (hx : p.tables.exec = Jvm.exec) (hby : c.code = bytes) (hZ : Z.Warmed39 s.vm) (eT : T.heap = h) {a : Addr} {kk : ClassId} {ty : FieldType} {n : Int32} {vs : List Value} {d v : Value} {j : Int32} (F : Arv Z h a kk ty n vs d) (ht : ty.isReference = true) (hj : ¬ j < 0 ∧ j < n) (hv : vs.getD j.toNatClampNeg d = v) (hd : decode bytes pc = .ok (.aaload, 1)) (hp : pc + 1 = pc')
    (k : own_Got p e below P T (mkF m pc' ls (v :: st))) : own_Got p e below P T (mkF m pc ls (.int j :: .ref a :: st)) := by
  subst hp
  obtain ⟨cl, Ar, -, S, N, H, -⟩ := F
  exact own_go (fun t q => X.aaload hx (by rw [eT]; exact Ar.1) (State.isArrayOf_alike hZ.alike Ar.2.1) ht Ar.2.2 (inb_of S hj) (H.at (inb_of S hj) hv) (g := mkF m pc ls (.int j :: .ref a :: st)) rfl rfl (hb hby hd) t q) k
theorem a_iastore (X : Stand p l e R s m args below meth c T locs cells slots) (hx : p.tables.exec = Jvm.exec) (hby : c.code = bytes) (hZ : Z.Warmed39 s.vm) (eT : T.heap = h) {a : Addr} {kk : ClassId} {n : Int32} {vs : List Value} {d : Value} {j : Int32} (x : Int32) (i : Nat) (F : Arv Z h a kk .int n vs d) (hj : ¬ j < 0 ∧ j < n) (hi : j.toNatClampNeg = i) (hl : i < vs.length) (hd : decode bytes pc = .ok (.iastore, 1)) :
    ∃ T' h', Stand p l e R s m args below meth c T' (locs ++ [⟨a, j.toNatClampNeg⟩]) cells slots ∧ T'.heap = h' ∧ Wr h h' a j.toNatClampNeg (.int x) ∧ Arv Z h' a kk .int n (vs.set i (.int x)) d ∧ ∀ t, Steps p.tables e below (T'.setTop (mkF m (pc + 1) ls st)) t → Steps p.tables e below (T.setTop (mkF m pc ls (.int x :: .int j :: .ref a :: st))) t := by
  obtain ⟨cl, Ar, q1, S, N, H, Gf⟩ := F
  obtain ⟨T', h', X', e', W, k⟩ := stI X hx hZ eT Ar (j := j) (inb_of S hj) (g := mkF m pc ls (.int x :: .int j :: .ref a :: st)) rfl rfl (hb hby hd)
  exact ⟨T', h', X', e', W, Arv.set Ar q1 S N H Gf (rfl) W i hi hl, k⟩
theorem a_castore (X : Stand p l e R s m args below meth c T locs cells slots) (hx : p.tables.exec = Jvm.exec) (hby : c.code = bytes) (hZ : Z.Warmed39 s.vm) (eT : T.heap = h) {a : Addr} {kk : ClassId} {n : Int32} {vs : List Value} {d : Value} {j : Int32} (x : Int32) (i : Nat) (F : Arv Z h a kk .char n vs d) (hj : ¬ j < 0 ∧ j < n) (hi : j.toNatClampNeg = i) (hl : i < vs.length) (hd : decode bytes pc = .ok (.castore, 1)) :
    ∃ T' h', Stand p l e R s m args below meth c T' (locs ++ [⟨a, j.toNatClampNeg⟩]) cells slots ∧ T'.heap = h' ∧ Wr h h' a j.toNatClampNeg (.int (nar .char x)) ∧ Arv Z h' a kk .char n (vs.set i (.int (nar .char x))) d ∧ ∀ t, Steps p.tables e below (T'.setTop (mkF m (pc + 1) ls st)) t → Steps p.tables e below (T.setTop (mkF m pc ls (.int x :: .int j :: .ref a :: st))) t := by
  obtain ⟨cl, Ar, q1, S, N, H, Gf⟩ := F
  obtain ⟨T', h', X', e', W, k⟩ := stC X hx hZ eT Ar (j := j) (inb_of S hj) (g := mkF m pc ls (.int x :: .int j :: .ref a :: st)) rfl rfl (hb hby hd)
  exact ⟨T', h', X', e', W, Arv.set Ar q1 S N H Gf (fits_nar_char _) W i hi hl, k⟩
theorem a_bastore (X : Stand p l e R s m args below meth c T locs cells slots) (hx : p.tables.exec = Jvm.exec) (hby : c.code = bytes) (hZ : Z.Warmed39 s.vm) (eT : T.heap = h) {a : Addr} {kk : ClassId} {n : Int32} {vs : List Value} {d : Value} {j : Int32} (x : Int32) (i : Nat) (F : Arv Z h a kk .byte n vs d) (hj : ¬ j < 0 ∧ j < n) (hi : j.toNatClampNeg = i) (hl : i < vs.length) (hd : decode bytes pc = .ok (.bastore, 1)) :
    ∃ T' h', Stand p l e R s m args below meth c T' (locs ++ [⟨a, j.toNatClampNeg⟩]) cells slots ∧ T'.heap = h' ∧ Wr h h' a j.toNatClampNeg (.int (nar .byte x)) ∧ Arv Z h' a kk .byte n (vs.set i (.int (nar .byte x))) d ∧ ∀ t, Steps p.tables e below (T'.setTop (mkF m (pc + 1) ls st)) t → Steps p.tables e below (T.setTop (mkF m pc ls (.int x :: .int j :: .ref a :: st))) t := by
  obtain ⟨cl, Ar, q1, S, N, H, Gf⟩ := F
  obtain ⟨T', h', X', e', W, k⟩ := stB X hx hZ eT Ar (j := j) (inb_of S hj) (g := mkF m pc ls (.int x :: .int j :: .ref a :: st)) rfl rfl (hb hby hd)
  exact ⟨T', h', X', e', W, Arv.set Ar q1 S N H Gf (fits_nar_byte _) W i hi hl, k⟩
theorem a_lastore (X : Stand p l e R s m args below meth c T locs cells slots) (hx : p.tables.exec = Jvm.exec) (hby : c.code = bytes) (hZ : Z.Warmed39 s.vm) (eT : T.heap = h) {a : Addr} {kk : ClassId} {n : Int32} {vs : List Value} {d : Value} {j : Int32} (x : Int64) (i : Nat) (F : Arv Z h a kk .long n vs d) (hj : ¬ j < 0 ∧ j < n) (hi : j.toNatClampNeg = i) (hl : i < vs.length) (hd : decode bytes pc = .ok (.lastore, 1)) :
    ∃ T' h', Stand p l e R s m args below meth c T' (locs ++ [⟨a, j.toNatClampNeg⟩]) cells slots ∧ T'.heap = h' ∧ Wr h h' a j.toNatClampNeg (.long x) ∧ Arv Z h' a kk .long n (vs.set i (.long x)) d ∧ ∀ t, Steps p.tables e below (T'.setTop (mkF m (pc + 1) ls st)) t → Steps p.tables e below (T.setTop (mkF m pc ls (.long x :: .int j :: .ref a :: st))) t := by
  obtain ⟨cl, Ar, q1, S, N, H, Gf⟩ := F
  obtain ⟨T', h', X', e', W, k⟩ := stJ X hx hZ eT Ar (j := j) (inb_of S hj) (g := mkF m pc ls (.long x :: .int j :: .ref a :: st)) rfl rfl (hb hby hd)
  exact ⟨T', h', X', e', W, Arv.set Ar q1 S N H Gf (rfl) W i hi hl, k⟩
theorem a_dastore (X : Stand p l e R s m args below meth c T locs cells slots) (hx : p.tables.exec = Jvm.exec) (hby : c.code = bytes) (hZ : Z.Warmed39 s.vm) (eT : T.heap = h) {a : Addr} {kk : ClassId} {n : Int32} {vs : List Value} {d : Value} {j : Int32} (x : UInt64) (i : Nat) (F : Arv Z h a kk .double n vs d) (hj : ¬ j < 0 ∧ j < n) (hi : j.toNatClampNeg = i) (hl : i < vs.length) (hd : decode bytes pc = .ok (.dastore, 1)) :
    ∃ T' h', Stand p l e R s m args below meth c T' (locs ++ [⟨a, j.toNatClampNeg⟩]) cells slots ∧ T'.heap = h' ∧ Wr h h' a j.toNatClampNeg (.double x) ∧ Arv Z h' a kk .double n (vs.set i (.double x)) d ∧ ∀ t, Steps p.tables e below (T'.setTop (mkF m (pc + 1) ls st)) t → Steps p.tables e below (T.setTop (mkF m pc ls (.double x :: .int j :: .ref a :: st))) t := by
  obtain ⟨cl, Ar, q1, S, N, H, Gf⟩ := F
  obtain ⟨T', h', X', e', W, k⟩ := stD X hx hZ eT Ar (j := j) (inb_of S hj) (g := mkF m pc ls (.double x :: .int j :: .ref a :: st)) rfl rfl (hb hby hd)
  exact ⟨T', h', X', e', W, Arv.set Ar q1 S N H Gf (rfl) W i hi hl, k⟩
theorem a_aastore (X : Stand p l e R s m args below meth c T locs cells slots) (hx : p.tables.exec = Jvm.exec) (hby : c.code = bytes) (hZ : Z.Warmed39 s.vm) (eT : T.heap = h) {a b : Addr} {kk : ClassId} {Cn : String} {n : Int32} {vs : List Value} {d : Value} {j : Int32} (i : Nat) (F : Arv Z h a kk (.object Cn) n vs d) (O : Ovr Z kk Cn) (I : Ins Z h b Cn true) (hj : ¬ j < 0 ∧ j < n) (hi : j.toNatClampNeg = i) (hl : i < vs.length) (hd : decode bytes pc = .ok (.aastore, 1)) :
    ∃ T' h', Stand p l e R s m args below meth c T' (locs ++ [⟨a, j.toNatClampNeg⟩]) cells slots ∧ T'.heap = h' ∧ Wr h h' a j.toNatClampNeg (.ref b) ∧ Arv Z h' a kk (.object Cn) n (vs.set i (.ref b)) d ∧ ∀ t, Steps p.tables e below (T'.setTop (mkF m (pc + 1) ls st)) t → Steps p.tables e below (T.setTop (mkF m pc ls (.ref b :: .int j :: .ref a :: st))) t := by
  obtain ⟨cl, Ar, q1, S, N, H, Gf⟩ := F
  obtain ⟨T', h', X', e', W, k⟩ := stR X hx hZ eT Ar (j := j) (inb_of S hj) rfl (Sto.ofV Ar q1 O I) (g := mkF m pc ls (.ref b :: .int j :: .ref a :: st)) rfl rfl (hb hby hd)
  exact ⟨T', h', X', e', W, Arv.set Ar q1 S N H Gf rfl W i hi hl, k⟩
theorem own_stakeep {C n d : String} {v : Value} {K : String} {a : Addr} (F : Sta Z h C n d v) (k : Keep h h' [a]) (E : Exa Z h a K) : Sta Z h' C n d v := by
  obtain ⟨cf, i, kk, f, st, cell, h1, h2, h3, h4, h5, h6, h7⟩ := F
  refine ⟨cf, i, kk, f, st, cell, h1, h2, h3, h4, k.2.1 _ _ h5 (fun q => ?_), h6, h7⟩
  obtain ⟨c2, k2, g1, -, -, g4, -⟩ := E
  cases List.mem_singleton.mp q
  cases h5.symm.trans g1
  rw [g4] at h6; cases h6
theorem own_stakeep0 {C n d : String} {v : Value} (F : Sta Z h C n d v) (k : Keep h h' []) : Sta Z h' C n d v := by
  obtain ⟨cf, i, kk, f, st, cell, h1, h2, h3, h4, h5, h6, h7⟩ := F
  exact ⟨cf, i, kk, f, st, cell, h1, h2, h3, h4, k.2.1 _ _ h5 nin0, h6, h7⟩
theorem own_eqI {t : Term} {first : State} {o : Option Outcome} {idx : List Nat} {z : Int32} (hq : (Cond.eq t (.int z)).value args first o s idx = some true) : t.eval args first o idx s = some (.int z) := by
  obtain ⟨x, y, hx, hy, kk, -⟩ := cmp_v (Or.inl hq)
  have hy' : y = .int z := Option.some.inj (hy.symm.trans rfl)
  subst hy'
  cases x with
  | int x => simp only [Cond.value, hx, hy] at hq; simp at hq; rw [hx, hq]
  | _ => simp [Kin, Value.isRef] at kk
theorem own_eqR {t u : Term} {first : State} {o : Option Outcome} {idx : List Nat} {b : Addr} (hq : (Cond.eq t u).value args first o s idx = some true) (hu : u.eval args first o idx s = some (.ref b)) : t.eval args first o idx s = some (.ref b) := by
  obtain ⟨x, y, hx, hy, kk, kk2⟩ := cmp_v (Or.inl hq)
  cases hu.symm.trans hy
  have hr : x.isRef = true := kk2.2
  have := gotT (eq_R hx hu hr rfl) hq
  rw [hx, this]
theorem g_i2d (X : Stand p l e R s m args below meth c T locs cells slots) (hx : p.tables.exec = Jvm.exec) (hby : c.code = bytes) {x : Int32} (hd : decode bytes pc = .ok (.i2d, 1))  (hp : pc + 1 = pc')
    (k : own_Got p e below P T (mkF m pc' ls (.double (FP.i2d x) :: st))) : own_Got p e below P T (mkF m pc ls (.int x :: st)) := by
  subst hp; exact own_go (fun _ q => XS.i2dS X.here hx rfl (hb hby hd) rfl rfl q) k
theorem g_dcmp (X : Stand p l e R s m args below meth c T locs cells slots) (hx : p.tables.exec = Jvm.exec) (hby : c.code = bytes) {o : CmpOp} {x y : UInt64} (hd : decode bytes pc = .ok (.dcmp o, 1))  (hp : pc + 1 = pc')
    (k : own_Got p e below P T (mkF m pc' ls (.int (cmpValue (FP.dcmp x y) o) :: st))) : own_Got p e below P T (mkF m pc ls (.double y :: .double x :: st)) := by
  subst hp; exact own_go (fun _ q => XS.dcmpS X.here hx rfl (hb hby hd) rfl rfl q) k
theorem g_dconst0 (X : Stand p l e R s m args below meth c T locs cells slots) (hx : p.tables.exec = Jvm.exec) (hby : c.code = bytes) (z : UInt64) (hd : decode bytes pc = .ok (.dconst 0, 1)) (hz : FP.dconst0 = z) (hp : pc + 1 = pc')
    (k : own_Got p e below P T (mkF m pc' ls (.double z :: st))) : own_Got p e below P T (mkF m pc ls (st)) := by
  subst hp; exact own_go (fun _ q => XS.dconst0 X.here hx rfl (hb hby hd) hz q) k
theorem g_dadd (X : Stand p l e R s m args below meth c T locs cells slots) (hx : p.tables.exec = Jvm.exec) (hby : c.code = bytes) {x y : UInt64} (hd : decode bytes pc = .ok (.dadd, 1)) (hn : Jvm.Free.Fl.NoNaN64 (FP.dadd x y)) (hp : pc + 1 = pc')
    (k : own_Got p e below P T (mkF m pc' ls (.double (FP.dadd x y) :: st))) : own_Got p e below P T (mkF m pc ls (.double y :: .double x :: st)) := by
  subst hp; exact own_go (fun _ q => XS.daddS X.here hx rfl (hb hby hd) rfl hn rfl q) k
theorem g_dsub (X : Stand p l e R s m args below meth c T locs cells slots) (hx : p.tables.exec = Jvm.exec) (hby : c.code = bytes) {x y : UInt64} (hd : decode bytes pc = .ok (.dsub, 1)) (hn : Jvm.Free.Fl.NoNaN64 (FP.dsub x y)) (hp : pc + 1 = pc')
    (k : own_Got p e below P T (mkF m pc' ls (.double (FP.dsub x y) :: st))) : own_Got p e below P T (mkF m pc ls (.double y :: .double x :: st)) := by
  subst hp; exact own_go (fun _ q => XS.dsubS X.here hx rfl (hb hby hd) rfl hn rfl q) k
theorem g_dmul (X : Stand p l e R s m args below meth c T locs cells slots) (hx : p.tables.exec = Jvm.exec) (hby : c.code = bytes) {x y : UInt64} (hd : decode bytes pc = .ok (.dmul, 1)) (hn : Jvm.Free.Fl.NoNaN64 (FP.dmul x y)) (hp : pc + 1 = pc')
    (k : own_Got p e below P T (mkF m pc' ls (.double (FP.dmul x y) :: st))) : own_Got p e below P T (mkF m pc ls (.double y :: .double x :: st)) := by
  subst hp; exact own_go (fun _ q => XS.dmulS X.here hx rfl (hb hby hd) rfl hn rfl q) k
theorem g_ddiv (X : Stand p l e R s m args below meth c T locs cells slots) (hx : p.tables.exec = Jvm.exec) (hby : c.code = bytes) {x y : UInt64} (hd : decode bytes pc = .ok (.ddiv, 1)) (hn : Jvm.Free.Fl.NoNaN64 (FP.ddiv x y)) (hp : pc + 1 = pc')
    (k : own_Got p e below P T (mkF m pc' ls (.double (FP.ddiv x y) :: st))) : own_Got p e below P T (mkF m pc ls (.double y :: .double x :: st)) := by
  subst hp; exact own_go (fun _ q => XS.ddivS X.here hx rfl (hb hby hd) rfl hn rfl q) k
theorem own_narR {t : FieldType} {w : Value} (ht : t.isReference = true) (hw : w.isRef = true) : narrow t w = w := by rcases ref_cases hw with rfl | ⟨a, rfl⟩ <;> cases t <;> first | rfl | (cases ht)
theorem own_fitR {t : FieldType} {w : Value} (ht : t.isReference = true) (hw : w.isRef = true) : fits t w = true := by rcases ref_cases hw with rfl | ⟨a, rfl⟩ <;> cases t <;> first | rfl | (cases ht)
theorem own_nb (x : Int32) : nar .byte (x.toInt8.toInt32) = x.toInt8.toInt32 := by
  show (x.toInt8.toInt32).toInt8.toInt32 = x.toInt8.toInt32
  simp
theorem own_nc (x : Int32) : nar .char (x.toUInt32.toUInt16.toUInt32.toInt32) = x.toUInt32.toUInt16.toUInt32.toInt32 := by
  show (x.toUInt32.toUInt16.toUInt32.toInt32).toUInt32.toUInt16.toUInt32.toInt32 = _
  have q : ∀ u : UInt16, u.toUInt32.toInt32.toUInt32.toUInt16 = u := fun u => by simp
  rw [q]
end OwnKit
theorem d_isP_0 : decode prog_62_method_4_code 0 = .ok (.aload_n 0, 1) := by decide +kernel
theorem d_isP_1 : decode prog_62_method_4_code 1 = .ok (.getstatic 3, 3) := by decide +kernel
theorem d_isP_4 : decode prog_62_method_4_code 4 = .ok (.if_acmp .eq 10, 3) := by decide +kernel
theorem d_isP_14 : decode prog_62_method_4_code 14 = .ok (.iconst 1, 1) := by decide +kernel
theorem d_isP_15 : decode prog_62_method_4_code 15 = .ok (.goto 4, 3) := by decide +kernel
theorem d_isP_19 : decode prog_62_method_4_code 19 = .ok (.ireturn, 1) := by decide +kernel
theorem pn0 : plainName "com/example/farshard/farshard/store/LoggedOp$Kind" = true := by first | (simp [plainName, overriddenIn]; done) | decide +kernel
theorem ef_isP (m : MethodId) (wP : Addr) : entryFrame m #[(.ref wP)] 1 = mkF m 0 #[.val (.ref wP)] [] := by first | (simp [entryFrame, mkF, argsToLocals, Value.category]; done) | rfl
def Q_isP (Z : State) (wP : Addr) (h0 : Heap) (n0 : Nat) (v : Option Value) (h : Heap) (L : List Loc) : Prop := v = some (.int (1 : Int32)) ∧ Fr n0 L ∧ h = h0
set_option maxRecDepth 65536 in
set_option maxHeartbeats 40000000 in
theorem rm_isP (l : Launch) (Z : State) (aT : Array Value) (hw : ∀ d ∈ tables_1, d.before aT Z = true) (ws : List Jvm.Cond) (wP : Addr) (h0 : Heap) (n0 : Nat) (Z0 : n0 ≤ h0.size) (hp0 : Sta Z h0 "com/example/farshard/farshard/store/LoggedOp$Kind" "PUT" "Lcom/example/farshard/farshard/store/LoggedOp$Kind;" (.ref wP)) :
    MetFree l (⟨"com/example/farshard/farshard/store/LoggedOp$Kind", "isOperation", "()Z"⟩ : MethodName) (head1 (Jvm.Cond.code (⟨"com/example/farshard/farshard/store/LoggedOp$Kind", "isOperation", "()Z"⟩ : MethodName) prog_62_method_4_code 1 (some .boolean) :: ws) ({ frames := 0, cells := 0, slots := 0, locals := 0 } : Room)) (fun a U => a = #[(.ref wP)] ∧ Z.Warmed39 U.vm ∧ U.heap = h0) (fun _ _ _ _ _ => True) (fun _ U o U' => ∃ v L, o = .returned v ∧ Q_isP Z wP h0 n0 v U'.heap L ∧ FrameEnd U o U' L ({ frames := 0, cells := 0, slots := 0, locals := 0 } : Room).cells ({ frames := 0, cells := 0, slots := 0, locals := 0 } : Room).slots) := by
  refine MetFree.of_bodySF (plainFor_of_name pn0) hisR ?_
  intro p e s m args below meth c s₁ Bd hml0 hP hK
  obtain ⟨rfl, hZ, hh⟩ := hP
  have hx := Bd.exec
  have hby := Bd.bytes
  have hml : c.maxLocals = 1 := hml0
  have hown : s.vm.findClass "com/example/farshard/farshard/store/LoggedOp$Kind" = some m.cls := findClass_of_methodNamed Bd.named
  have hnm := (name_of_methodNamed Bd.named Bd.method).1
  have hlk := Bd.notSynchronized
  have hrt := Bd.returns
  have X0 : Stand p l e ({ frames := 0, cells := 0, slots := 0, locals := 0 } : Room) s m #[(.ref wP)] below meth c s₁ [] 0 0 := Stand.of_body Bd
  have e0 : s₁.heap = h0 := by rw [← hh, Bd.state]; rfl
  have N0 := Fr.nil n0
  refine own_cast (P := own_End s (Q_isP Z wP h0 n0) ({ frames := 0, cells := 0, slots := 0, locals := 0 } : Room).cells ({ frames := 0, cells := 0, slots := 0, locals := 0 } : Room).slots) (ef_isP m wP) ?_
  refine g_aloadN X0 hx hby d_isP_0 rfl rfl (rfl : 0 + 1 = 1) ?_
  obtain ⟨T1, X1, e1, st1⟩ := getS2 X0 hx hZ hown (host := "") (Or.inl (hw _ (List.mem_of_getElem? (i := 20) rfl))) Via.refl e0 hp0 (g := (mkF m 1 #[.val (.ref wP)] [(.ref wP)])) rfl (hb hby d_isP_1)
  refine own_go st1 ?_
  show own_Got p e below _ T1 (mkF m 4 #[.val (.ref wP)] [(.ref wP), (.ref wP)])
  refine g_acmp X1 hx hby (pc' := 14) true d_isP_4 rfl rfl (decide_eq_true rfl) (by decide) (by decide) ?_
  refine g_iconst X1 hx hby (1 : Int32) d_isP_14 (by decide) (rfl : 14 + 1 = 15) ?_
  refine g_goto X1 hx hby d_isP_15 (by decide) (pc' := 19) (by decide) ?_
  refine own_retN X1 hx hby hlk (t := .boolean) hrt (by simp) d_isP_19 (by decide) (by decide) ?_
  show Q_isP Z wP h0 n0 _ T1.heap _
  exact ⟨rfl, N0, e1⟩
theorem d_isD_0 : decode prog_62_method_4_code 0 = .ok (.aload_n 0, 1) := by decide +kernel
theorem d_isD_1 : decode prog_62_method_4_code 1 = .ok (.getstatic 3, 3) := by decide +kernel
theorem d_isD_4 : decode prog_62_method_4_code 4 = .ok (.if_acmp .eq 10, 3) := by decide +kernel
theorem d_isD_7 : decode prog_62_method_4_code 7 = .ok (.aload_n 0, 1) := by decide +kernel
theorem d_isD_8 : decode prog_62_method_4_code 8 = .ok (.getstatic 7, 3) := by decide +kernel
theorem d_isD_11 : decode prog_62_method_4_code 11 = .ok (.if_acmp .ne 7, 3) := by decide +kernel
theorem d_isD_14 : decode prog_62_method_4_code 14 = .ok (.iconst 1, 1) := by decide +kernel
theorem d_isD_15 : decode prog_62_method_4_code 15 = .ok (.goto 4, 3) := by decide +kernel
theorem d_isD_19 : decode prog_62_method_4_code 19 = .ok (.ireturn, 1) := by decide +kernel
theorem ef_isD (m : MethodId) (wD : Addr) : entryFrame m #[(.ref wD)] 1 = mkF m 0 #[.val (.ref wD)] [] := by first | (simp [entryFrame, mkF, argsToLocals, Value.category]; done) | rfl
def Q_isD (Z : State) (wD : Addr) (wP : Addr) (h0 : Heap) (n0 : Nat) (v : Option Value) (h : Heap) (L : List Loc) : Prop := v = some (.int (1 : Int32)) ∧ Fr n0 L ∧ h = h0
set_option maxRecDepth 65536 in
set_option maxHeartbeats 40000000 in
theorem rm_isD (l : Launch) (Z : State) (aT : Array Value) (hw : ∀ d ∈ tables_1, d.before aT Z = true) (ws : List Jvm.Cond) (wD : Addr) (wP : Addr) (h0 : Heap) (n0 : Nat) (Z0 : n0 ≤ h0.size) (hp0 : Sta Z h0 "com/example/farshard/farshard/store/LoggedOp$Kind" "PUT" "Lcom/example/farshard/farshard/store/LoggedOp$Kind;" (.ref wP)) (hp1 : Sta Z h0 "com/example/farshard/farshard/store/LoggedOp$Kind" "DELETE" "Lcom/example/farshard/farshard/store/LoggedOp$Kind;" (.ref wD)) (hp2 : wD ≠ wP) :
    MetFree l (⟨"com/example/farshard/farshard/store/LoggedOp$Kind", "isOperation", "()Z"⟩ : MethodName) (head1 (Jvm.Cond.code (⟨"com/example/farshard/farshard/store/LoggedOp$Kind", "isOperation", "()Z"⟩ : MethodName) prog_62_method_4_code 1 (some .boolean) :: ws) ({ frames := 0, cells := 0, slots := 0, locals := 0 } : Room)) (fun a U => a = #[(.ref wD)] ∧ Z.Warmed39 U.vm ∧ U.heap = h0) (fun _ _ _ _ _ => True) (fun _ U o U' => ∃ v L, o = .returned v ∧ Q_isD Z wD wP h0 n0 v U'.heap L ∧ FrameEnd U o U' L ({ frames := 0, cells := 0, slots := 0, locals := 0 } : Room).cells ({ frames := 0, cells := 0, slots := 0, locals := 0 } : Room).slots) := by
  refine MetFree.of_bodySF (plainFor_of_name pn0) hisR ?_
  intro p e s m args below meth c s₁ Bd hml0 hP hK
  obtain ⟨rfl, hZ, hh⟩ := hP
  have hx := Bd.exec
  have hby := Bd.bytes
  have hml : c.maxLocals = 1 := hml0
  have hown : s.vm.findClass "com/example/farshard/farshard/store/LoggedOp$Kind" = some m.cls := findClass_of_methodNamed Bd.named
  have hnm := (name_of_methodNamed Bd.named Bd.method).1
  have hlk := Bd.notSynchronized
  have hrt := Bd.returns
  have X0 : Stand p l e ({ frames := 0, cells := 0, slots := 0, locals := 0 } : Room) s m #[(.ref wD)] below meth c s₁ [] 0 0 := Stand.of_body Bd
  have e0 : s₁.heap = h0 := by rw [← hh, Bd.state]; rfl
  have N0 := Fr.nil n0
  refine own_cast (P := own_End s (Q_isD Z wD wP h0 n0) ({ frames := 0, cells := 0, slots := 0, locals := 0 } : Room).cells ({ frames := 0, cells := 0, slots := 0, locals := 0 } : Room).slots) (ef_isD m wD) ?_
  refine g_aloadN X0 hx hby d_isD_0 rfl rfl (rfl : 0 + 1 = 1) ?_
  obtain ⟨T2, X2, e2, st2⟩ := getS2 X0 hx hZ hown (host := "") (Or.inl (hw _ (List.mem_of_getElem? (i := 20) rfl))) Via.refl e0 hp0 (g := (mkF m 1 #[.val (.ref wD)] [(.ref wD)])) rfl (hb hby d_isD_1)
  refine own_go st2 ?_
  show own_Got p e below _ T2 (mkF m 4 #[.val (.ref wD)] [(.ref wP), (.ref wD)])
  refine g_acmp X2 hx hby (pc' := 7) false d_isD_4 rfl rfl (decide_eq_false fun q => hp2 (Value.ref.inj q)) (by decide) (by decide) ?_
  refine g_aloadN X2 hx hby d_isD_7 rfl rfl (rfl : 7 + 1 = 8) ?_
  obtain ⟨T3, X3, e3, st3⟩ := getS2 X2 hx hZ hown (host := "") (Or.inl (hw _ (List.mem_of_getElem? (i := 21) rfl))) Via.refl e2 hp1 (g := (mkF m 8 #[.val (.ref wD)] [(.ref wD)])) rfl (hb hby d_isD_8)
  refine own_go st3 ?_
  show own_Got p e below _ T3 (mkF m 11 #[.val (.ref wD)] [(.ref wD), (.ref wD)])
  refine g_acmp X3 hx hby (pc' := 14) true d_isD_11 rfl rfl (decide_eq_true rfl) (by decide) (by decide) ?_
  refine g_iconst X3 hx hby (1 : Int32) d_isD_14 (by decide) (rfl : 14 + 1 = 15) ?_
  refine g_goto X3 hx hby d_isD_15 (by decide) (pc' := 19) (by decide) ?_
  refine own_retN X3 hx hby hlk (t := .boolean) hrt (by simp) d_isD_19 (by decide) (by decide) ?_
  show Q_isD Z wD wP h0 n0 _ T3.heap _
  exact ⟨rfl, N0, e3⟩
theorem d_isN_0 : decode prog_62_method_4_code 0 = .ok (.aload_n 0, 1) := by decide +kernel
theorem d_isN_1 : decode prog_62_method_4_code 1 = .ok (.getstatic 3, 3) := by decide +kernel
theorem d_isN_4 : decode prog_62_method_4_code 4 = .ok (.if_acmp .eq 10, 3) := by decide +kernel
theorem d_isN_7 : decode prog_62_method_4_code 7 = .ok (.aload_n 0, 1) := by decide +kernel
theorem d_isN_8 : decode prog_62_method_4_code 8 = .ok (.getstatic 7, 3) := by decide +kernel
theorem d_isN_11 : decode prog_62_method_4_code 11 = .ok (.if_acmp .ne 7, 3) := by decide +kernel
theorem d_isN_18 : decode prog_62_method_4_code 18 = .ok (.iconst 0, 1) := by decide +kernel
theorem d_isN_19 : decode prog_62_method_4_code 19 = .ok (.ireturn, 1) := by decide +kernel
theorem ef_isN (m : MethodId) (a0 : Addr) : entryFrame m #[(.ref a0)] 1 = mkF m 0 #[.val (.ref a0)] [] := by first | (simp [entryFrame, mkF, argsToLocals, Value.category]; done) | rfl
def Q_isN (Z : State) (a0 : Addr) (wP : Addr) (wD : Addr) (h0 : Heap) (n0 : Nat) (v : Option Value) (h : Heap) (L : List Loc) : Prop := v = some (.int (0 : Int32)) ∧ Fr n0 L ∧ h = h0
set_option maxRecDepth 65536 in
set_option maxHeartbeats 40000000 in
theorem rm_isN (l : Launch) (Z : State) (aT : Array Value) (hw : ∀ d ∈ tables_1, d.before aT Z = true) (ws : List Jvm.Cond) (a0 : Addr) (wP : Addr) (wD : Addr) (h0 : Heap) (n0 : Nat) (Z0 : n0 ≤ h0.size) (hp0 : Sta Z h0 "com/example/farshard/farshard/store/LoggedOp$Kind" "PUT" "Lcom/example/farshard/farshard/store/LoggedOp$Kind;" (.ref wP)) (hp1 : Sta Z h0 "com/example/farshard/farshard/store/LoggedOp$Kind" "DELETE" "Lcom/example/farshard/farshard/store/LoggedOp$Kind;" (.ref wD)) (hp2 : a0 ≠ wP) (hp3 : a0 ≠ wD) :
    MetFree l (⟨"com/example/farshard/farshard/store/LoggedOp$Kind", "isOperation", "()Z"⟩ : MethodName) (head1 (Jvm.Cond.code (⟨"com/example/farshard/farshard/store/LoggedOp$Kind", "isOperation", "()Z"⟩ : MethodName) prog_62_method_4_code 1 (some .boolean) :: ws) ({ frames := 0, cells := 0, slots := 0, locals := 0 } : Room)) (fun a U => a = #[(.ref a0)] ∧ Z.Warmed39 U.vm ∧ U.heap = h0) (fun _ _ _ _ _ => True) (fun _ U o U' => ∃ v L, o = .returned v ∧ Q_isN Z a0 wP wD h0 n0 v U'.heap L ∧ FrameEnd U o U' L ({ frames := 0, cells := 0, slots := 0, locals := 0 } : Room).cells ({ frames := 0, cells := 0, slots := 0, locals := 0 } : Room).slots) := by
  refine MetFree.of_bodySF (plainFor_of_name pn0) hisR ?_
  intro p e s m args below meth c s₁ Bd hml0 hP hK
  obtain ⟨rfl, hZ, hh⟩ := hP
  have hx := Bd.exec
  have hby := Bd.bytes
  have hml : c.maxLocals = 1 := hml0
  have hown : s.vm.findClass "com/example/farshard/farshard/store/LoggedOp$Kind" = some m.cls := findClass_of_methodNamed Bd.named
  have hnm := (name_of_methodNamed Bd.named Bd.method).1
  have hlk := Bd.notSynchronized
  have hrt := Bd.returns
  have X0 : Stand p l e ({ frames := 0, cells := 0, slots := 0, locals := 0 } : Room) s m #[(.ref a0)] below meth c s₁ [] 0 0 := Stand.of_body Bd
  have e0 : s₁.heap = h0 := by rw [← hh, Bd.state]; rfl
  have N0 := Fr.nil n0
  refine own_cast (P := own_End s (Q_isN Z a0 wP wD h0 n0) ({ frames := 0, cells := 0, slots := 0, locals := 0 } : Room).cells ({ frames := 0, cells := 0, slots := 0, locals := 0 } : Room).slots) (ef_isN m a0) ?_
  refine g_aloadN X0 hx hby d_isN_0 rfl rfl (rfl : 0 + 1 = 1) ?_
  obtain ⟨T4, X4, e4, st4⟩ := getS2 X0 hx hZ hown (host := "") (Or.inl (hw _ (List.mem_of_getElem? (i := 20) rfl))) Via.refl e0 hp0 (g := (mkF m 1 #[.val (.ref a0)] [(.ref a0)])) rfl (hb hby d_isN_1)
  refine own_go st4 ?_
  show own_Got p e below _ T4 (mkF m 4 #[.val (.ref a0)] [(.ref wP), (.ref a0)])
  refine g_acmp X4 hx hby (pc' := 7) false d_isN_4 rfl rfl (decide_eq_false fun q => hp2 (Value.ref.inj q)) (by decide) (by decide) ?_
  refine g_aloadN X4 hx hby d_isN_7 rfl rfl (rfl : 7 + 1 = 8) ?_
  obtain ⟨T5, X5, e5, st5⟩ := getS2 X4 hx hZ hown (host := "") (Or.inl (hw _ (List.mem_of_getElem? (i := 21) rfl))) Via.refl e4 hp1 (g := (mkF m 8 #[.val (.ref a0)] [(.ref a0)])) rfl (hb hby d_isN_8)
  refine own_go st5 ?_
  show own_Got p e below _ T5 (mkF m 11 #[.val (.ref a0)] [(.ref wD), (.ref a0)])
  refine g_acmp X5 hx hby (pc' := 18) false d_isN_11 rfl rfl (decide_eq_false fun q => hp3 (Value.ref.inj q)) (by decide) (by decide) ?_
  refine g_iconst X5 hx hby (0 : Int32) d_isN_18 (by decide) (rfl : 18 + 1 = 19) ?_
  refine own_retN X5 hx hby hlk (t := .boolean) hrt (by simp) d_isN_19 (by decide) (by decide) ?_
  show Q_isN Z a0 wP wD h0 n0 _ T5.heap _
  exact ⟨rfl, N0, e5⟩
theorem own_mod5 (x : Int32) : (x &&& (2147483647 : Int32)) % (5 : Int32) = 0 ∨ (x &&& (2147483647 : Int32)) % (5 : Int32) = 1 ∨ (x &&& (2147483647 : Int32)) % (5 : Int32) = 2 ∨ (x &&& (2147483647 : Int32)) % (5 : Int32) = 3 ∨ (x &&& (2147483647 : Int32)) % (5 : Int32) = 4 := by
  have h := (c_and x 2147483647 (by decide)).1
  have h2 := (c_irem (x &&& 2147483647) 5 5 (by decide)).1 h
  generalize (x &&& 2147483647) % 5 = y at h2 ⊢
  have h3 : y.toInt = 0 ∨ y.toInt = 1 ∨ y.toInt = 2 ∨ y.toInt = 3 ∨ y.toInt = 4 := by omega
  simp only [← Int32.toInt_inj]
  exact h3

theorem pn1 : plainName "com/example/farshard/farshard/store/KindIsOperationPinLaw" = true := by first | (simp [plainName, overriddenIn]; done) | decide +kernel
theorem pd0 : parseMethodDescriptor "()Z" = some ⟨[], some .boolean⟩ := by decide +kernel
theorem ef_law (m : MethodId) (x0 : Int32) : entryFrame m #[(.int x0)] maxLocals = mkF m 0 #[.val (.int x0), .unset, .unset, .unset] [] := by first | (simp [entryFrame, mkF, argsToLocals, Value.category, maxLocals]; done) | rfl
def Q_law (Z : State) (x0 : Int32) (wPUT : Addr) (wDELETE : Addr) (wCOPY : Addr) (wCOPIED : Addr) (wCOPY_END : Addr) (h0 : Heap) (n0 : Nat) (v : Option Value) (h : Heap) (L : List Loc) : Prop := v = some (.int (1 : Int32)) ∧ Fr n0 L
set_option maxRecDepth 65536 in
set_option maxHeartbeats 40000000 in
theorem rm_law (l : Launch) (Z : State) (aT : Array Value) (hw : ∀ d ∈ tables_1, d.before aT Z = true) (ws : List Jvm.Cond) (x0 : Int32) (wPUT : Addr) (wDELETE : Addr) (wCOPY : Addr) (wCOPIED : Addr) (wCOPY_END : Addr) (h0 : Heap) (n0 : Nat) (Z0 : n0 ≤ h0.size) (hp0 : Sta Z h0 "com/example/farshard/farshard/store/LoggedOp$Kind" "PUT" "Lcom/example/farshard/farshard/store/LoggedOp$Kind;" (.ref wPUT)) (hp1 : Sta Z h0 "com/example/farshard/farshard/store/LoggedOp$Kind" "DELETE" "Lcom/example/farshard/farshard/store/LoggedOp$Kind;" (.ref wDELETE)) (hp2 : Sta Z h0 "com/example/farshard/farshard/store/LoggedOp$Kind" "COPY" "Lcom/example/farshard/farshard/store/LoggedOp$Kind;" (.ref wCOPY)) (hp3 : Sta Z h0 "com/example/farshard/farshard/store/LoggedOp$Kind" "COPIED" "Lcom/example/farshard/farshard/store/LoggedOp$Kind;" (.ref wCOPIED)) (hp4 : Sta Z h0 "com/example/farshard/farshard/store/LoggedOp$Kind" "COPY_END" "Lcom/example/farshard/farshard/store/LoggedOp$Kind;" (.ref wCOPY_END)) (hp5 : Exa Z h0 wPUT "com/example/farshard/farshard/store/LoggedOp$Kind") (hp6 : Exa Z h0 wDELETE "com/example/farshard/farshard/store/LoggedOp$Kind") (hp7 : Exa Z h0 wCOPY "com/example/farshard/farshard/store/LoggedOp$Kind") (hp8 : Exa Z h0 wCOPIED "com/example/farshard/farshard/store/LoggedOp$Kind") (hp9 : Exa Z h0 wCOPY_END "com/example/farshard/farshard/store/LoggedOp$Kind") (hp10 : wPUT ≠ wDELETE) (hp11 : wPUT ≠ wCOPY) (hp12 : wPUT ≠ wCOPIED) (hp13 : wPUT ≠ wCOPY_END) (hp14 : wDELETE ≠ wCOPY) (hp15 : wDELETE ≠ wCOPIED) (hp16 : wDELETE ≠ wCOPY_END) (hp17 : wCOPY ≠ wCOPIED) (hp18 : wCOPY ≠ wCOPY_END) (hp19 : wCOPIED ≠ wCOPY_END) :
    MetFree l x (head1 (Jvm.Cond.code x code maxLocals ret :: ws) room_1) (fun a U => a = #[(.int x0)] ∧ Z.Warmed39 U.vm ∧ U.heap = h0) (fun _ _ _ _ _ => True) (fun _ U o U' => ∃ v L, o = .returned v ∧ Q_law Z x0 wPUT wDELETE wCOPY wCOPIED wCOPY_END h0 n0 v U'.heap L ∧ FrameEnd U o U' L 16 128) := by
  refine MetFree.of_bodySF (plainFor_of_name pn1) hisR ?_
  intro p e s m args below meth c s₁ Bd hml0 hP hK
  obtain ⟨rfl, hZ, hh⟩ := hP
  have hx := Bd.exec
  have hby := Bd.bytes
  have hml : c.maxLocals = 4 := hml0
  have hown : s.vm.findClass "com/example/farshard/farshard/store/KindIsOperationPinLaw" = some m.cls := findClass_of_methodNamed Bd.named
  have hnm := (name_of_methodNamed Bd.named Bd.method).1
  have hlk := Bd.notSynchronized
  have hrt := Bd.returns
  have X0 : Stand p l e room_1 s m #[(.int x0)] below meth c s₁ [] 0 0 := Stand.of_body Bd
  have e0 : s₁.heap = h0 := by rw [← hh, Bd.state]; rfl
  have N0 := Fr.nil n0
  refine own_cast (P := own_End s (Q_law Z x0 wPUT wDELETE wCOPY wCOPIED wCOPY_END h0 n0) 16 128) (ef_law m x0) ?_
  refine g_iconst X0 hx hby (5 : Int32) at_0 (by decide) (rfl : 0 + 1 = 1) ?_
  obtain ⟨T6, h6, k6, X6, e6, E6, A6, B6, O6, st6⟩ := newRE X0 hx hZ hown (hw _ (List.mem_of_getElem? (i := 0) rfl)) (hw _ (List.mem_of_getElem? (i := 1) rfl)) e0 (g := (mkF m 1 #[.val (.int x0), .unset, .unset, .unset] [(.int (5 : Int32))])) rfl (hb hby at_1) rfl (by decide) (cap := 5) (by decide) (by decide) (by decide) (by decide) (ad := "[Lcom/example/farshard/farshard/store/LoggedOp$Kind;") (by decide +kernel)
  obtain ⟨b6, g6⟩ : ∃ z, z = h0.size := ⟨_, rfl⟩
  rw [← g6] at A6 B6 st6
  have ne7 : wPUT ≠ b6 := Nat.ne_of_lt (Nat.lt_of_lt_of_le (hp5).lt (Nat.le_of_eq g6.symm))
  have ne8 : wDELETE ≠ b6 := Nat.ne_of_lt (Nat.lt_of_lt_of_le (hp6).lt (Nat.le_of_eq g6.symm))
  have ne9 : wCOPY ≠ b6 := Nat.ne_of_lt (Nat.lt_of_lt_of_le (hp7).lt (Nat.le_of_eq g6.symm))
  have ne10 : wCOPIED ≠ b6 := Nat.ne_of_lt (Nat.lt_of_lt_of_le (hp8).lt (Nat.le_of_eq g6.symm))
  have ne11 : wCOPY_END ≠ b6 := Nat.ne_of_lt (Nat.lt_of_lt_of_le (hp9).lt (Nat.le_of_eq g6.symm))
  have Z6 : n0 ≤ h6.size := Nat.le_trans Z0 E6.1
  have ge6 : n0 ≤ b6 := Nat.le_trans Z0 (Nat.le_of_eq g6.symm)
  have V6 : Arv Z h6 b6 k6 (.object "com/example/farshard/farshard/store/LoggedOp$Kind") (5 : Int32) [.null, .null, .null, .null, .null] .null := (Arv.new A6 (by decide)).pad (pad_rep [] _ 5)
  refine own_go st6 ?_
  show own_Got p e below _ T6 (mkF m 4 #[.val (.int x0), .unset, .unset, .unset] [(.ref b6)])
  refine g_dup X6 hx hby at_4 rfl (rfl : 4 + 1 = 5) ?_
  refine g_iconst X6 hx hby (0 : Int32) at_5 (by decide) (rfl : 5 + 1 = 6) ?_
  have f12 : Sta Z h6 "com/example/farshard/farshard/store/LoggedOp$Kind" "PUT" "Lcom/example/farshard/farshard/store/LoggedOp$Kind;" (.ref wPUT) := (Sta.ext E6 hp0)
  obtain ⟨T13, X13, e13, st13⟩ := getS2 X6 hx hZ hown (host := "") (Or.inl (hw _ (List.mem_of_getElem? (i := 2) rfl))) Via.refl e6 f12 (g := (mkF m 6 #[.val (.int x0), .unset, .unset, .unset] [(.int (0 : Int32)), (.ref b6), (.ref b6)])) rfl (hb hby at_6)
  refine own_go st13 ?_
  show own_Got p e below _ T13 (mkF m 9 #[.val (.int x0), .unset, .unset, .unset] [(.ref wPUT), (.int (0 : Int32)), (.ref b6), (.ref b6)])
  have f15 : Exa Z h6 wPUT "com/example/farshard/farshard/store/LoggedOp$Kind" := (Exa.ext E6 hp5)
  obtain ⟨T14, h14, X14, e14, W14, V14, st14⟩ := a_aastore X13 hx hby hZ e13 (ls := #[.val (.int x0), .unset, .unset, .unset]) (st := [(.ref b6)]) (j := (0 : Int32)) 0 V6 O6 (Ins.self f15) ⟨by decide, by decide⟩ (by decide) (Nat.le_of_ble_eq_true rfl) at_9
  have Z14 : n0 ≤ h14.size := Nat.le_trans Z6 (Keep.of_wr W14).1
  have N14 := Fr.snoc X14 N0 ge6
  have V14' : Arv Z h14 b6 k6 (.object "com/example/farshard/farshard/store/LoggedOp$Kind") (5 : Int32) [(.ref wPUT), .null, .null, .null, .null] .null := V14
  refine own_go st14 ?_
  show own_Got p e below _ T14 (mkF m 10 #[.val (.int x0), .unset, .unset, .unset] [(.ref b6)])
  refine g_dup X14 hx hby at_10 rfl (rfl : 10 + 1 = 11) ?_
  refine g_iconst X14 hx hby (1 : Int32) at_11 (by decide) (rfl : 11 + 1 = 12) ?_
  have f16 : Sta Z h14 "com/example/farshard/farshard/store/LoggedOp$Kind" "DELETE" "Lcom/example/farshard/farshard/store/LoggedOp$Kind;" (.ref wDELETE) := (Sta.wr W14 (Sta.ext E6 hp1))
  obtain ⟨T17, X17, e17, st17⟩ := getS2 X14 hx hZ hown (host := "") (Or.inl (hw _ (List.mem_of_getElem? (i := 6) rfl))) Via.refl e14 f16 (g := (mkF m 12 #[.val (.int x0), .unset, .unset, .unset] [(.int (1 : Int32)), (.ref b6), (.ref b6)])) rfl (hb hby at_12)
  refine own_go st17 ?_
  show own_Got p e below _ T17 (mkF m 15 #[.val (.int x0), .unset, .unset, .unset] [(.ref wDELETE), (.int (1 : Int32)), (.ref b6), (.ref b6)])
  have f19 : Exa Z h14 wDELETE "com/example/farshard/farshard/store/LoggedOp$Kind" := (Exa.wr W14 (Exa.ext E6 hp6))
  obtain ⟨T18, h18, X18, e18, W18, V18, st18⟩ := a_aastore X17 hx hby hZ e17 (ls := #[.val (.int x0), .unset, .unset, .unset]) (st := [(.ref b6)]) (j := (1 : Int32)) 1 V14' O6 (Ins.self f19) ⟨by decide, by decide⟩ (by decide) (Nat.le_of_ble_eq_true rfl) at_15
  have Z18 : n0 ≤ h18.size := Nat.le_trans Z14 (Keep.of_wr W18).1
  have N18 := Fr.snoc X18 N14 ge6
  have V18' : Arv Z h18 b6 k6 (.object "com/example/farshard/farshard/store/LoggedOp$Kind") (5 : Int32) [(.ref wPUT), (.ref wDELETE), .null, .null, .null] .null := V18
  refine own_go st18 ?_
  show own_Got p e below _ T18 (mkF m 16 #[.val (.int x0), .unset, .unset, .unset] [(.ref b6)])
  refine g_dup X18 hx hby at_16 rfl (rfl : 16 + 1 = 17) ?_
  refine g_iconst X18 hx hby (2 : Int32) at_17 (by decide) (rfl : 17 + 1 = 18) ?_
  have f20 : Sta Z h18 "com/example/farshard/farshard/store/LoggedOp$Kind" "COPY" "Lcom/example/farshard/farshard/store/LoggedOp$Kind;" (.ref wCOPY) := (Sta.wr W18 (Sta.wr W14 (Sta.ext E6 hp2)))
  obtain ⟨T21, X21, e21, st21⟩ := getS2 X18 hx hZ hown (host := "") (Or.inl (hw _ (List.mem_of_getElem? (i := 8) rfl))) Via.refl e18 f20 (g := (mkF m 18 #[.val (.int x0), .unset, .unset, .unset] [(.int (2 : Int32)), (.ref b6), (.ref b6)])) rfl (hb hby at_18)
  refine own_go st21 ?_
  show own_Got p e below _ T21 (mkF m 21 #[.val (.int x0), .unset, .unset, .unset] [(.ref wCOPY), (.int (2 : Int32)), (.ref b6), (.ref b6)])
  have f23 : Exa Z h18 wCOPY "com/example/farshard/farshard/store/LoggedOp$Kind" := (Exa.wr W18 (Exa.wr W14 (Exa.ext E6 hp7)))
  obtain ⟨T22, h22, X22, e22, W22, V22, st22⟩ := a_aastore X21 hx hby hZ e21 (ls := #[.val (.int x0), .unset, .unset, .unset]) (st := [(.ref b6)]) (j := (2 : Int32)) 2 V18' O6 (Ins.self f23) ⟨by decide, by decide⟩ (by decide) (Nat.le_of_ble_eq_true rfl) at_21
  have Z22 : n0 ≤ h22.size := Nat.le_trans Z18 (Keep.of_wr W22).1
  have N22 := Fr.snoc X22 N18 ge6
  have V22' : Arv Z h22 b6 k6 (.object "com/example/farshard/farshard/store/LoggedOp$Kind") (5 : Int32) [(.ref wPUT), (.ref wDELETE), (.ref wCOPY), .null, .null] .null := V22
  refine own_go st22 ?_
  show own_Got p e below _ T22 (mkF m 22 #[.val (.int x0), .unset, .unset, .unset] [(.ref b6)])
  refine g_dup X22 hx hby at_22 rfl (rfl : 22 + 1 = 23) ?_
  refine g_iconst X22 hx hby (3 : Int32) at_23 (by decide) (rfl : 23 + 1 = 24) ?_
  have f24 : Sta Z h22 "com/example/farshard/farshard/store/LoggedOp$Kind" "COPIED" "Lcom/example/farshard/farshard/store/LoggedOp$Kind;" (.ref wCOPIED) := (Sta.wr W22 (Sta.wr W18 (Sta.wr W14 (Sta.ext E6 hp3))))
  obtain ⟨T25, X25, e25, st25⟩ := getS2 X22 hx hZ hown (host := "") (Or.inl (hw _ (List.mem_of_getElem? (i := 10) rfl))) Via.refl e22 f24 (g := (mkF m 24 #[.val (.int x0), .unset, .unset, .unset] [(.int (3 : Int32)), (.ref b6), (.ref b6)])) rfl (hb hby at_24)
  refine own_go st25 ?_
  show own_Got p e below _ T25 (mkF m 27 #[.val (.int x0), .unset, .unset, .unset] [(.ref wCOPIED), (.int (3 : Int32)), (.ref b6), (.ref b6)])
  have f27 : Exa Z h22 wCOPIED "com/example/farshard/farshard/store/LoggedOp$Kind" := (Exa.wr W22 (Exa.wr W18 (Exa.wr W14 (Exa.ext E6 hp8))))
  obtain ⟨T26, h26, X26, e26, W26, V26, st26⟩ := a_aastore X25 hx hby hZ e25 (ls := #[.val (.int x0), .unset, .unset, .unset]) (st := [(.ref b6)]) (j := (3 : Int32)) 3 V22' O6 (Ins.self f27) ⟨by decide, by decide⟩ (by decide) (Nat.le_of_ble_eq_true rfl) at_27
  have Z26 : n0 ≤ h26.size := Nat.le_trans Z22 (Keep.of_wr W26).1
  have N26 := Fr.snoc X26 N22 ge6
  have V26' : Arv Z h26 b6 k6 (.object "com/example/farshard/farshard/store/LoggedOp$Kind") (5 : Int32) [(.ref wPUT), (.ref wDELETE), (.ref wCOPY), (.ref wCOPIED), .null] .null := V26
  refine own_go st26 ?_
  show own_Got p e below _ T26 (mkF m 28 #[.val (.int x0), .unset, .unset, .unset] [(.ref b6)])
  refine g_dup X26 hx hby at_28 rfl (rfl : 28 + 1 = 29) ?_
  refine g_iconst X26 hx hby (4 : Int32) at_29 (by decide) (rfl : 29 + 1 = 30) ?_
  have f28 : Sta Z h26 "com/example/farshard/farshard/store/LoggedOp$Kind" "COPY_END" "Lcom/example/farshard/farshard/store/LoggedOp$Kind;" (.ref wCOPY_END) := (Sta.wr W26 (Sta.wr W22 (Sta.wr W18 (Sta.wr W14 (Sta.ext E6 hp4)))))
  obtain ⟨T29, X29, e29, st29⟩ := getS2 X26 hx hZ hown (host := "") (Or.inl (hw _ (List.mem_of_getElem? (i := 12) rfl))) Via.refl e26 f28 (g := (mkF m 30 #[.val (.int x0), .unset, .unset, .unset] [(.int (4 : Int32)), (.ref b6), (.ref b6)])) rfl (hb hby at_30)
  refine own_go st29 ?_
  show own_Got p e below _ T29 (mkF m 33 #[.val (.int x0), .unset, .unset, .unset] [(.ref wCOPY_END), (.int (4 : Int32)), (.ref b6), (.ref b6)])
  have f31 : Exa Z h26 wCOPY_END "com/example/farshard/farshard/store/LoggedOp$Kind" := (Exa.wr W26 (Exa.wr W22 (Exa.wr W18 (Exa.wr W14 (Exa.ext E6 hp9)))))
  obtain ⟨T30, h30, X30, e30, W30, V30, st30⟩ := a_aastore X29 hx hby hZ e29 (ls := #[.val (.int x0), .unset, .unset, .unset]) (st := [(.ref b6)]) (j := (4 : Int32)) 4 V26' O6 (Ins.self f31) ⟨by decide, by decide⟩ (by decide) (Nat.le_of_ble_eq_true rfl) at_33
  have Z30 : n0 ≤ h30.size := Nat.le_trans Z26 (Keep.of_wr W30).1
  have N30 := Fr.snoc X30 N26 ge6
  have V30' : Arv Z h30 b6 k6 (.object "com/example/farshard/farshard/store/LoggedOp$Kind") (5 : Int32) [(.ref wPUT), (.ref wDELETE), (.ref wCOPY), (.ref wCOPIED), (.ref wCOPY_END)] .null := V30
  refine own_go st30 ?_
  show own_Got p e below _ T30 (mkF m 34 #[.val (.int x0), .unset, .unset, .unset] [(.ref b6)])
  refine g_astoreN X30 hx hby #[.val (.int x0), .val (.ref b6), .unset, .unset] at_34 rfl rfl (rfl : 34 + 1 = 35) ?_
  refine g_iloadN X30 hx hby at_35 rfl (rfl : 35 + 1 = 36) ?_
  refine g_ldcI X30 hx hby hZ hown (hw _ (List.mem_of_getElem? (i := 14) rfl)) at_36 (rfl : 36 + 2 = 38) ?_
  refine g_iand X30 hx hby at_38 (rfl : 38 + 1 = 39) ?_
  refine g_iconst X30 hx hby (5 : Int32) at_39 (by decide) (rfl : 39 + 1 = 40) ?_
  refine g_irem X30 hx hby at_40 (by decide) (rfl : 40 + 1 = 41) ?_
  refine g_istoreN X30 hx hby #[.val (.int x0), .val (.ref b6), .val (.int ((x0 &&& (2147483647 : Int32)) % (5 : Int32))), .unset] at_41 rfl (rfl : 41 + 1 = 42) ?_
  rcases own_mod5 x0 with hk32 | hk32 | hk32 | hk32 | hk32
  · rw [hk32]
    refine g_iloadN X30 hx hby at_42 rfl (rfl : 42 + 1 = 43) ?_
    refine g_ifF X30 hx hby at_43 ((if0 _ _).trans (teq (by decide : (0 : Int32) = (0 : Int32))).2) (rfl : 43 + 3 = 46) ?_
    refine g_iconst X30 hx hby (1 : Int32) at_46 (by decide) (rfl : 46 + 1 = 47) ?_
    refine g_istoreN X30 hx hby #[.val (.int x0), .val (.ref b6), .val (.int (0 : Int32)), .val (.int (1 : Int32))] at_47 rfl (rfl : 47 + 1 = 48) ?_
    refine g_goto X30 hx hby at_48 (by decide) (pc' := 63) (by decide) ?_
    refine g_aloadN X30 hx hby at_63 rfl rfl (rfl : 63 + 1 = 64) ?_
    refine g_iloadN X30 hx hby at_64 rfl (rfl : 64 + 1 = 65) ?_
    refine g_aaload X30 hx hby hZ e30 (v := (.ref wPUT)) V30' rfl ⟨by decide, by decide⟩ rfl at_65 (rfl : 65 + 1 = 66) ?_
    have f34 : Sta Z h30 "com/example/farshard/farshard/store/LoggedOp$Kind" "PUT" "Lcom/example/farshard/farshard/store/LoggedOp$Kind;" (.ref wPUT) := (Sta.wr W30 (Sta.wr W26 (Sta.wr W22 (Sta.wr W18 (Sta.wr W14 f12)))))
    have f35 : Exa Z h30 wPUT "com/example/farshard/farshard/store/LoggedOp$Kind" := (Exa.wr W30 (Exa.wr W26 (Exa.wr W22 (Exa.wr W18 (Exa.wr W14 f15)))))
    obtain ⟨cq33, kq33, q33a, q33b, q33c⟩ := isOf hZ e30 f35
    obtain ⟨_, _, ⟨T33, L33, k33, n33⟩, -, X33, ⟨Lc33, hQ33, l33, y33, z33⟩, st33⟩ := X30.virtualBack hx (y := (⟨"com/example/farshard/farshard/store/LoggedOp$Kind", "isOperation", "()Z"⟩ : MethodName)) (z := (⟨"com/example/farshard/farshard/store/LoggedOp$Kind", "isOperation", "()Z"⟩ : MethodName)) hown (mvT hZ (hw _ (List.mem_of_getElem? (i := 15) rfl))) (mvT hZ (hw _ (List.mem_of_getElem? (i := 16) rfl))) (notFace_of_selects (args := #[]) (mvT hZ (hw _ (List.mem_of_getElem? (i := 18) rfl)))) (mvT hZ (hw _ (List.mem_of_getElem? (i := 18) rfl))) (mvT hZ (hw _ (List.mem_of_getElem? (i := 17) rfl))) (by decide) (backOf (W := 0) (rm_isP l Z aT hw [] wPUT h30 n0 Z30 f34) hZ (hw _ (List.mem_of_getElem? (i := 19) rfl)) (hw _ (List.mem_of_getElem? (i := 3) rfl)) (by decide) (by decide)) q33a q33c (g := (mkF m 66 #[.val (.int x0), .val (.ref b6), .val (.int (0 : Int32)), .val (.int (1 : Int32))] [(.ref wPUT)])) rfl (by rw [hml]; rfl) (Steps.refl _) (argsL := []) (rest := []) (lenOf pd0 rfl) rfl (by show 2 * 0 + _ ≤ _; exact Nat.le_of_eq rfl) (hb hby at_66) (fun _ _ => ⟨rfl, e30, (by decide : 1 + 0 ≤ _), (by decide : 5 + 0 ≤ _)⟩)
    dsimp only [Pt.U, Pt.locs, Pt.cells, Pt.slots] at X33 l33 y33 z33 st33 hQ33
    subst l33 y33 z33
    obtain ⟨rfl, N33q, eq33⟩ := hQ33
    have N33 := Fr.app N30 N33q
    refine own_tr st33 ?_
    show own_Got p e below _ T33 (mkF m 69 #[.val (.int x0), .val (.ref b6), .val (.int (0 : Int32)), .val (.int (1 : Int32))] [(.int (1 : Int32))])
    refine g_iloadN X33 hx hby at_69 rfl (rfl : 69 + 1 = 70) ?_
    refine g_icF X33 hx hby at_70 (teq (by decide : (1 : Int32) = (1 : Int32))).2 (rfl : 70 + 3 = 73) ?_
    refine g_iconst X33 hx hby (1 : Int32) at_73 (by decide) (rfl : 73 + 1 = 74) ?_
    refine g_goto X33 hx hby at_74 (by decide) (pc' := 78) (by decide) ?_
    refine own_retN X33 hx hby hlk (t := .boolean) hrt (by simp) at_78 (by decide) (by decide) ?_
    show Q_law Z x0 wPUT wDELETE wCOPY wCOPIED wCOPY_END h0 n0 _ T33.heap _
    exact ⟨rfl, N33⟩
  · rw [hk32]
    refine g_iloadN X30 hx hby at_42 rfl (rfl : 42 + 1 = 43) ?_
    refine g_ifT X30 hx hby at_43 ((if0 _ _).trans (feq (by decide : ¬ ((1 : Int32) = (0 : Int32)))).2) (by decide) (pc' := 51) (by decide) ?_
    refine g_iloadN X30 hx hby at_51 rfl (rfl : 51 + 1 = 52) ?_
    refine g_iconst X30 hx hby (1 : Int32) at_52 (by decide) (rfl : 52 + 1 = 53) ?_
    refine g_icF X30 hx hby at_53 (teq (by decide : (1 : Int32) = (1 : Int32))).2 (rfl : 53 + 3 = 56) ?_
    refine g_iconst X30 hx hby (1 : Int32) at_56 (by decide) (rfl : 56 + 1 = 57) ?_
    refine g_istoreN X30 hx hby #[.val (.int x0), .val (.ref b6), .val (.int (1 : Int32)), .val (.int (1 : Int32))] at_57 rfl (rfl : 57 + 1 = 58) ?_
    refine g_goto X30 hx hby at_58 (by decide) (pc' := 63) (by decide) ?_
    refine g_aloadN X30 hx hby at_63 rfl rfl (rfl : 63 + 1 = 64) ?_
    refine g_iloadN X30 hx hby at_64 rfl (rfl : 64 + 1 = 65) ?_
    refine g_aaload X30 hx hby hZ e30 (v := (.ref wDELETE)) V30' rfl ⟨by decide, by decide⟩ rfl at_65 (rfl : 65 + 1 = 66) ?_
    have f37 : Sta Z h30 "com/example/farshard/farshard/store/LoggedOp$Kind" "PUT" "Lcom/example/farshard/farshard/store/LoggedOp$Kind;" (.ref wPUT) := (Sta.wr W30 (Sta.wr W26 (Sta.wr W22 (Sta.wr W18 (Sta.wr W14 f12)))))
    have f38 : Sta Z h30 "com/example/farshard/farshard/store/LoggedOp$Kind" "DELETE" "Lcom/example/farshard/farshard/store/LoggedOp$Kind;" (.ref wDELETE) := (Sta.wr W30 (Sta.wr W26 (Sta.wr W22 (Sta.wr W18 f16))))
    have f39 : Exa Z h30 wDELETE "com/example/farshard/farshard/store/LoggedOp$Kind" := (Exa.wr W30 (Exa.wr W26 (Exa.wr W22 (Exa.wr W18 f19))))
    obtain ⟨cq36, kq36, q36a, q36b, q36c⟩ := isOf hZ e30 f39
    obtain ⟨_, _, ⟨T36, L36, k36, n36⟩, -, X36, ⟨Lc36, hQ36, l36, y36, z36⟩, st36⟩ := X30.virtualBack hx (y := (⟨"com/example/farshard/farshard/store/LoggedOp$Kind", "isOperation", "()Z"⟩ : MethodName)) (z := (⟨"com/example/farshard/farshard/store/LoggedOp$Kind", "isOperation", "()Z"⟩ : MethodName)) hown (mvT hZ (hw _ (List.mem_of_getElem? (i := 15) rfl))) (mvT hZ (hw _ (List.mem_of_getElem? (i := 16) rfl))) (notFace_of_selects (args := #[]) (mvT hZ (hw _ (List.mem_of_getElem? (i := 18) rfl)))) (mvT hZ (hw _ (List.mem_of_getElem? (i := 18) rfl))) (mvT hZ (hw _ (List.mem_of_getElem? (i := 17) rfl))) (by decide) (backOf (W := 0) (rm_isD l Z aT hw [] wDELETE wPUT h30 n0 Z30 f37 f38 (Ne.symm hp10)) hZ (hw _ (List.mem_of_getElem? (i := 19) rfl)) (hw _ (List.mem_of_getElem? (i := 3) rfl)) (by decide) (by decide)) q36a q36c (g := (mkF m 66 #[.val (.int x0), .val (.ref b6), .val (.int (1 : Int32)), .val (.int (1 : Int32))] [(.ref wDELETE)])) rfl (by rw [hml]; rfl) (Steps.refl _) (argsL := []) (rest := []) (lenOf pd0 rfl) rfl (by show 2 * 0 + _ ≤ _; exact Nat.le_of_eq rfl) (hb hby at_66) (fun _ _ => ⟨rfl, e30, (by decide : 1 + 0 ≤ _), (by decide : 5 + 0 ≤ _)⟩)
    dsimp only [Pt.U, Pt.locs, Pt.cells, Pt.slots] at X36 l36 y36 z36 st36 hQ36
    subst l36 y36 z36
    obtain ⟨rfl, N36q, eq36⟩ := hQ36
    have N36 := Fr.app N30 N36q
    refine own_tr st36 ?_
    show own_Got p e below _ T36 (mkF m 69 #[.val (.int x0), .val (.ref b6), .val (.int (1 : Int32)), .val (.int (1 : Int32))] [(.int (1 : Int32))])
    refine g_iloadN X36 hx hby at_69 rfl (rfl : 69 + 1 = 70) ?_
    refine g_icF X36 hx hby at_70 (teq (by decide : (1 : Int32) = (1 : Int32))).2 (rfl : 70 + 3 = 73) ?_
    refine g_iconst X36 hx hby (1 : Int32) at_73 (by decide) (rfl : 73 + 1 = 74) ?_
    refine g_goto X36 hx hby at_74 (by decide) (pc' := 78) (by decide) ?_
    refine own_retN X36 hx hby hlk (t := .boolean) hrt (by simp) at_78 (by decide) (by decide) ?_
    show Q_law Z x0 wPUT wDELETE wCOPY wCOPIED wCOPY_END h0 n0 _ T36.heap _
    exact ⟨rfl, N36⟩
  · rw [hk32]
    refine g_iloadN X30 hx hby at_42 rfl (rfl : 42 + 1 = 43) ?_
    refine g_ifT X30 hx hby at_43 ((if0 _ _).trans (feq (by decide : ¬ ((2 : Int32) = (0 : Int32)))).2) (by decide) (pc' := 51) (by decide) ?_
    refine g_iloadN X30 hx hby at_51 rfl (rfl : 51 + 1 = 52) ?_
    refine g_iconst X30 hx hby (1 : Int32) at_52 (by decide) (rfl : 52 + 1 = 53) ?_
    refine g_icT X30 hx hby at_53 (feq (by decide : ¬ ((2 : Int32) = (1 : Int32)))).2 (by decide) (pc' := 61) (by decide) ?_
    refine g_iconst X30 hx hby (0 : Int32) at_61 (by decide) (rfl : 61 + 1 = 62) ?_
    refine g_istoreN X30 hx hby #[.val (.int x0), .val (.ref b6), .val (.int (2 : Int32)), .val (.int (0 : Int32))] at_62 rfl (rfl : 62 + 1 = 63) ?_
    refine g_aloadN X30 hx hby at_63 rfl rfl (rfl : 63 + 1 = 64) ?_
    refine g_iloadN X30 hx hby at_64 rfl (rfl : 64 + 1 = 65) ?_
    refine g_aaload X30 hx hby hZ e30 (v := (.ref wCOPY)) V30' rfl ⟨by decide, by decide⟩ rfl at_65 (rfl : 65 + 1 = 66) ?_
    have f41 : Sta Z h30 "com/example/farshard/farshard/store/LoggedOp$Kind" "PUT" "Lcom/example/farshard/farshard/store/LoggedOp$Kind;" (.ref wPUT) := (Sta.wr W30 (Sta.wr W26 (Sta.wr W22 (Sta.wr W18 (Sta.wr W14 f12)))))
    have f42 : Sta Z h30 "com/example/farshard/farshard/store/LoggedOp$Kind" "DELETE" "Lcom/example/farshard/farshard/store/LoggedOp$Kind;" (.ref wDELETE) := (Sta.wr W30 (Sta.wr W26 (Sta.wr W22 (Sta.wr W18 f16))))
    have f43 : Exa Z h30 wCOPY "com/example/farshard/farshard/store/LoggedOp$Kind" := (Exa.wr W30 (Exa.wr W26 (Exa.wr W22 f23)))
    obtain ⟨cq40, kq40, q40a, q40b, q40c⟩ := isOf hZ e30 f43
    obtain ⟨_, _, ⟨T40, L40, k40, n40⟩, -, X40, ⟨Lc40, hQ40, l40, y40, z40⟩, st40⟩ := X30.virtualBack hx (y := (⟨"com/example/farshard/farshard/store/LoggedOp$Kind", "isOperation", "()Z"⟩ : MethodName)) (z := (⟨"com/example/farshard/farshard/store/LoggedOp$Kind", "isOperation", "()Z"⟩ : MethodName)) hown (mvT hZ (hw _ (List.mem_of_getElem? (i := 15) rfl))) (mvT hZ (hw _ (List.mem_of_getElem? (i := 16) rfl))) (notFace_of_selects (args := #[]) (mvT hZ (hw _ (List.mem_of_getElem? (i := 18) rfl)))) (mvT hZ (hw _ (List.mem_of_getElem? (i := 18) rfl))) (mvT hZ (hw _ (List.mem_of_getElem? (i := 17) rfl))) (by decide) (backOf (W := 0) (rm_isN l Z aT hw [] wCOPY wPUT wDELETE h30 n0 Z30 f41 f42 (Ne.symm hp11) (Ne.symm hp14)) hZ (hw _ (List.mem_of_getElem? (i := 19) rfl)) (hw _ (List.mem_of_getElem? (i := 3) rfl)) (by decide) (by decide)) q40a q40c (g := (mkF m 66 #[.val (.int x0), .val (.ref b6), .val (.int (2 : Int32)), .val (.int (0 : Int32))] [(.ref wCOPY)])) rfl (by rw [hml]; rfl) (Steps.refl _) (argsL := []) (rest := []) (lenOf pd0 rfl) rfl (by show 2 * 0 + _ ≤ _; exact Nat.le_of_eq rfl) (hb hby at_66) (fun _ _ => ⟨rfl, e30, (by decide : 1 + 0 ≤ _), (by decide : 5 + 0 ≤ _)⟩)
    dsimp only [Pt.U, Pt.locs, Pt.cells, Pt.slots] at X40 l40 y40 z40 st40 hQ40
    subst l40 y40 z40
    obtain ⟨rfl, N40q, eq40⟩ := hQ40
    have N40 := Fr.app N30 N40q
    refine own_tr st40 ?_
    show own_Got p e below _ T40 (mkF m 69 #[.val (.int x0), .val (.ref b6), .val (.int (2 : Int32)), .val (.int (0 : Int32))] [(.int (0 : Int32))])
    refine g_iloadN X40 hx hby at_69 rfl (rfl : 69 + 1 = 70) ?_
    refine g_icF X40 hx hby at_70 (teq (by decide : (0 : Int32) = (0 : Int32))).2 (rfl : 70 + 3 = 73) ?_
    refine g_iconst X40 hx hby (1 : Int32) at_73 (by decide) (rfl : 73 + 1 = 74) ?_
    refine g_goto X40 hx hby at_74 (by decide) (pc' := 78) (by decide) ?_
    refine own_retN X40 hx hby hlk (t := .boolean) hrt (by simp) at_78 (by decide) (by decide) ?_
    show Q_law Z x0 wPUT wDELETE wCOPY wCOPIED wCOPY_END h0 n0 _ T40.heap _
    exact ⟨rfl, N40⟩
  · rw [hk32]
    refine g_iloadN X30 hx hby at_42 rfl (rfl : 42 + 1 = 43) ?_
    refine g_ifT X30 hx hby at_43 ((if0 _ _).trans (feq (by decide : ¬ ((3 : Int32) = (0 : Int32)))).2) (by decide) (pc' := 51) (by decide) ?_
    refine g_iloadN X30 hx hby at_51 rfl (rfl : 51 + 1 = 52) ?_
    refine g_iconst X30 hx hby (1 : Int32) at_52 (by decide) (rfl : 52 + 1 = 53) ?_
    refine g_icT X30 hx hby at_53 (feq (by decide : ¬ ((3 : Int32) = (1 : Int32)))).2 (by decide) (pc' := 61) (by decide) ?_
    refine g_iconst X30 hx hby (0 : Int32) at_61 (by decide) (rfl : 61 + 1 = 62) ?_
    refine g_istoreN X30 hx hby #[.val (.int x0), .val (.ref b6), .val (.int (3 : Int32)), .val (.int (0 : Int32))] at_62 rfl (rfl : 62 + 1 = 63) ?_
    refine g_aloadN X30 hx hby at_63 rfl rfl (rfl : 63 + 1 = 64) ?_
    refine g_iloadN X30 hx hby at_64 rfl (rfl : 64 + 1 = 65) ?_
    refine g_aaload X30 hx hby hZ e30 (v := (.ref wCOPIED)) V30' rfl ⟨by decide, by decide⟩ rfl at_65 (rfl : 65 + 1 = 66) ?_
    have f45 : Sta Z h30 "com/example/farshard/farshard/store/LoggedOp$Kind" "PUT" "Lcom/example/farshard/farshard/store/LoggedOp$Kind;" (.ref wPUT) := (Sta.wr W30 (Sta.wr W26 (Sta.wr W22 (Sta.wr W18 (Sta.wr W14 f12)))))
    have f46 : Sta Z h30 "com/example/farshard/farshard/store/LoggedOp$Kind" "DELETE" "Lcom/example/farshard/farshard/store/LoggedOp$Kind;" (.ref wDELETE) := (Sta.wr W30 (Sta.wr W26 (Sta.wr W22 (Sta.wr W18 f16))))
    have f47 : Exa Z h30 wCOPIED "com/example/farshard/farshard/store/LoggedOp$Kind" := (Exa.wr W30 (Exa.wr W26 f27))
    obtain ⟨cq44, kq44, q44a, q44b, q44c⟩ := isOf hZ e30 f47
    obtain ⟨_, _, ⟨T44, L44, k44, n44⟩, -, X44, ⟨Lc44, hQ44, l44, y44, z44⟩, st44⟩ := X30.virtualBack hx (y := (⟨"com/example/farshard/farshard/store/LoggedOp$Kind", "isOperation", "()Z"⟩ : MethodName)) (z := (⟨"com/example/farshard/farshard/store/LoggedOp$Kind", "isOperation", "()Z"⟩ : MethodName)) hown (mvT hZ (hw _ (List.mem_of_getElem? (i := 15) rfl))) (mvT hZ (hw _ (List.mem_of_getElem? (i := 16) rfl))) (notFace_of_selects (args := #[]) (mvT hZ (hw _ (List.mem_of_getElem? (i := 18) rfl)))) (mvT hZ (hw _ (List.mem_of_getElem? (i := 18) rfl))) (mvT hZ (hw _ (List.mem_of_getElem? (i := 17) rfl))) (by decide) (backOf (W := 0) (rm_isN l Z aT hw [] wCOPIED wPUT wDELETE h30 n0 Z30 f45 f46 (Ne.symm hp12) (Ne.symm hp15)) hZ (hw _ (List.mem_of_getElem? (i := 19) rfl)) (hw _ (List.mem_of_getElem? (i := 3) rfl)) (by decide) (by decide)) q44a q44c (g := (mkF m 66 #[.val (.int x0), .val (.ref b6), .val (.int (3 : Int32)), .val (.int (0 : Int32))] [(.ref wCOPIED)])) rfl (by rw [hml]; rfl) (Steps.refl _) (argsL := []) (rest := []) (lenOf pd0 rfl) rfl (by show 2 * 0 + _ ≤ _; exact Nat.le_of_eq rfl) (hb hby at_66) (fun _ _ => ⟨rfl, e30, (by decide : 1 + 0 ≤ _), (by decide : 5 + 0 ≤ _)⟩)
    dsimp only [Pt.U, Pt.locs, Pt.cells, Pt.slots] at X44 l44 y44 z44 st44 hQ44
    subst l44 y44 z44
    obtain ⟨rfl, N44q, eq44⟩ := hQ44
    have N44 := Fr.app N30 N44q
    refine own_tr st44 ?_
    show own_Got p e below _ T44 (mkF m 69 #[.val (.int x0), .val (.ref b6), .val (.int (3 : Int32)), .val (.int (0 : Int32))] [(.int (0 : Int32))])
    refine g_iloadN X44 hx hby at_69 rfl (rfl : 69 + 1 = 70) ?_
    refine g_icF X44 hx hby at_70 (teq (by decide : (0 : Int32) = (0 : Int32))).2 (rfl : 70 + 3 = 73) ?_
    refine g_iconst X44 hx hby (1 : Int32) at_73 (by decide) (rfl : 73 + 1 = 74) ?_
    refine g_goto X44 hx hby at_74 (by decide) (pc' := 78) (by decide) ?_
    refine own_retN X44 hx hby hlk (t := .boolean) hrt (by simp) at_78 (by decide) (by decide) ?_
    show Q_law Z x0 wPUT wDELETE wCOPY wCOPIED wCOPY_END h0 n0 _ T44.heap _
    exact ⟨rfl, N44⟩
  · rw [hk32]
    refine g_iloadN X30 hx hby at_42 rfl (rfl : 42 + 1 = 43) ?_
    refine g_ifT X30 hx hby at_43 ((if0 _ _).trans (feq (by decide : ¬ ((4 : Int32) = (0 : Int32)))).2) (by decide) (pc' := 51) (by decide) ?_
    refine g_iloadN X30 hx hby at_51 rfl (rfl : 51 + 1 = 52) ?_
    refine g_iconst X30 hx hby (1 : Int32) at_52 (by decide) (rfl : 52 + 1 = 53) ?_
    refine g_icT X30 hx hby at_53 (feq (by decide : ¬ ((4 : Int32) = (1 : Int32)))).2 (by decide) (pc' := 61) (by decide) ?_
    refine g_iconst X30 hx hby (0 : Int32) at_61 (by decide) (rfl : 61 + 1 = 62) ?_
    refine g_istoreN X30 hx hby #[.val (.int x0), .val (.ref b6), .val (.int (4 : Int32)), .val (.int (0 : Int32))] at_62 rfl (rfl : 62 + 1 = 63) ?_
    refine g_aloadN X30 hx hby at_63 rfl rfl (rfl : 63 + 1 = 64) ?_
    refine g_iloadN X30 hx hby at_64 rfl (rfl : 64 + 1 = 65) ?_
    refine g_aaload X30 hx hby hZ e30 (v := (.ref wCOPY_END)) V30' rfl ⟨by decide, by decide⟩ rfl at_65 (rfl : 65 + 1 = 66) ?_
    have f49 : Sta Z h30 "com/example/farshard/farshard/store/LoggedOp$Kind" "PUT" "Lcom/example/farshard/farshard/store/LoggedOp$Kind;" (.ref wPUT) := (Sta.wr W30 (Sta.wr W26 (Sta.wr W22 (Sta.wr W18 (Sta.wr W14 f12)))))
    have f50 : Sta Z h30 "com/example/farshard/farshard/store/LoggedOp$Kind" "DELETE" "Lcom/example/farshard/farshard/store/LoggedOp$Kind;" (.ref wDELETE) := (Sta.wr W30 (Sta.wr W26 (Sta.wr W22 (Sta.wr W18 f16))))
    have f51 : Exa Z h30 wCOPY_END "com/example/farshard/farshard/store/LoggedOp$Kind" := (Exa.wr W30 f31)
    obtain ⟨cq48, kq48, q48a, q48b, q48c⟩ := isOf hZ e30 f51
    obtain ⟨_, _, ⟨T48, L48, k48, n48⟩, -, X48, ⟨Lc48, hQ48, l48, y48, z48⟩, st48⟩ := X30.virtualBack hx (y := (⟨"com/example/farshard/farshard/store/LoggedOp$Kind", "isOperation", "()Z"⟩ : MethodName)) (z := (⟨"com/example/farshard/farshard/store/LoggedOp$Kind", "isOperation", "()Z"⟩ : MethodName)) hown (mvT hZ (hw _ (List.mem_of_getElem? (i := 15) rfl))) (mvT hZ (hw _ (List.mem_of_getElem? (i := 16) rfl))) (notFace_of_selects (args := #[]) (mvT hZ (hw _ (List.mem_of_getElem? (i := 18) rfl)))) (mvT hZ (hw _ (List.mem_of_getElem? (i := 18) rfl))) (mvT hZ (hw _ (List.mem_of_getElem? (i := 17) rfl))) (by decide) (backOf (W := 0) (rm_isN l Z aT hw [] wCOPY_END wPUT wDELETE h30 n0 Z30 f49 f50 (Ne.symm hp13) (Ne.symm hp16)) hZ (hw _ (List.mem_of_getElem? (i := 19) rfl)) (hw _ (List.mem_of_getElem? (i := 3) rfl)) (by decide) (by decide)) q48a q48c (g := (mkF m 66 #[.val (.int x0), .val (.ref b6), .val (.int (4 : Int32)), .val (.int (0 : Int32))] [(.ref wCOPY_END)])) rfl (by rw [hml]; rfl) (Steps.refl _) (argsL := []) (rest := []) (lenOf pd0 rfl) rfl (by show 2 * 0 + _ ≤ _; exact Nat.le_of_eq rfl) (hb hby at_66) (fun _ _ => ⟨rfl, e30, (by decide : 1 + 0 ≤ _), (by decide : 5 + 0 ≤ _)⟩)
    dsimp only [Pt.U, Pt.locs, Pt.cells, Pt.slots] at X48 l48 y48 z48 st48 hQ48
    subst l48 y48 z48
    obtain ⟨rfl, N48q, eq48⟩ := hQ48
    have N48 := Fr.app N30 N48q
    refine own_tr st48 ?_
    show own_Got p e below _ T48 (mkF m 69 #[.val (.int x0), .val (.ref b6), .val (.int (4 : Int32)), .val (.int (0 : Int32))] [(.int (0 : Int32))])
    refine g_iloadN X48 hx hby at_69 rfl (rfl : 69 + 1 = 70) ?_
    refine g_icF X48 hx hby at_70 (teq (by decide : (0 : Int32) = (0 : Int32))).2 (rfl : 70 + 3 = 73) ?_
    refine g_iconst X48 hx hby (1 : Int32) at_73 (by decide) (rfl : 73 + 1 = 74) ?_
    refine g_goto X48 hx hby at_74 (by decide) (pc' := 78) (by decide) ?_
    refine own_retN X48 hx hby hlk (t := .boolean) hrt (by simp) at_78 (by decide) (by decide) ?_
    show Q_law Z x0 wPUT wDELETE wCOPY wCOPIED wCOPY_END h0 n0 _ T48.heap _
    exact ⟨rfl, N48⟩
set_option maxRecDepth 65536 in
set_option maxHeartbeats 40000000 in
theorem comes_1 {Post : Tables → Env → Array Value → State → Outcome → State → Prop} (hpost : ∀ tb e args s v u, (limb_1_1.after args s (.returned v) u = true ∧ limb_1_2.after args s (.returned v) u = true ∧ True) → FrameEnd s (.returned v) u (Jvm.fieldLocs frame_1_writes args s ++ Jvm.arrayLocs frame_1_arrays args s ++ Jvm.staticLocs frame_1_statics s) 16 128 → Post tb e args s (.returned v) u) :
    ArmFor flags0 classFile x code maxLocals ret World_1 tables_1 room_1 Calls_1 rest_1 Pre_1 Post := by
  intro l hfl _ _ p e ha hc hk s m args below hf hA hF happ hP
  obtain ⟨hcalls, hrest, hpre⟩ := hP
  obtain ⟨-, -, -, hnamed, -, -, -, hat⟩ := (Spec.applies_iff hf).mp happ
  obtain ⟨hg, hn⟩ := and_e (Cond.before_iff.mp (show (Jvm.Cond.and given_1 narrow_1).before args s = true from hpre))
  obtain ⟨hcnt, hg0⟩ := and_e hg
  obtain ⟨w0, rfl⟩ : ∃ w0 : Value, args = #[w0] := by
    have hs : args.size = 1 := by simpa [Cond.value, given_1] using hcnt
    obtain ⟨L⟩ := args
    match L, hs with
    | [w0], _ => exact ⟨w0, rfl⟩
  have hw := fun d (hd : d ∈ tables_1) => atoms_spec (ws := Jvm.Cond.code x code maxLocals ret :: tables_1) hat d (List.mem_cons_of_mem _ hd)
  have hfit : Fit s := fun {y c} hc i hi => by
    obtain ⟨ha, rfl⟩ := Array.getElem?_eq_some_iff.mp hc
    have q := List.all_eq_true.mp ((Array.all_eq_true_iff_forall_mem.mp hF) _ (Array.getElem_mem ha)) i (List.mem_range.mpr hi)
    simpa [Array.getElem?_eq_getElem hi] using q
  obtain ⟨i0, ei0⟩ := is_v hg0
  obtain rfl : w0 = (.int i0) := Option.some.inj ei0
  obtain ⟨nn0, nr0⟩ := and_e hn
  obtain ⟨nn1, nr1⟩ := and_e nr0
  obtain ⟨nn2, nr2⟩ := and_e nr1
  obtain ⟨nn3, nr3⟩ := and_e nr2
  obtain ⟨nn4, nr4⟩ := and_e nr3
  obtain ⟨nn5, nr5⟩ := and_e nr4
  obtain ⟨nn6, nr6⟩ := and_e nr5
  obtain ⟨nn7, nr7⟩ := and_e nr6
  obtain ⟨nn8, nr8⟩ := and_e nr7
  obtain ⟨r_Kind_PUT, ev_Kind_PUT⟩ := exa_v nn0
  have S_Kind_PUT := Sta.start ev_Kind_PUT (Or.inr ⟨hw _ (List.mem_of_getElem? (i := 3) rfl), hw _ (List.mem_of_getElem? (i := 4) rfl)⟩)
  have A_Kind_PUT := Exa.start ev_Kind_PUT nn0
  obtain ⟨r_Kind_DELETE, ev_Kind_DELETE⟩ := exa_v nn1
  have S_Kind_DELETE := Sta.start ev_Kind_DELETE (Or.inr ⟨hw _ (List.mem_of_getElem? (i := 3) rfl), hw _ (List.mem_of_getElem? (i := 7) rfl)⟩)
  have A_Kind_DELETE := Exa.start ev_Kind_DELETE nn1
  obtain ⟨r_Kind_COPY, ev_Kind_COPY⟩ := exa_v nn2
  have S_Kind_COPY := Sta.start ev_Kind_COPY (Or.inr ⟨hw _ (List.mem_of_getElem? (i := 3) rfl), hw _ (List.mem_of_getElem? (i := 9) rfl)⟩)
  have A_Kind_COPY := Exa.start ev_Kind_COPY nn2
  obtain ⟨r_Kind_COPIED, ev_Kind_COPIED⟩ := exa_v nn3
  have S_Kind_COPIED := Sta.start ev_Kind_COPIED (Or.inr ⟨hw _ (List.mem_of_getElem? (i := 3) rfl), hw _ (List.mem_of_getElem? (i := 11) rfl)⟩)
  have A_Kind_COPIED := Exa.start ev_Kind_COPIED nn3
  obtain ⟨r_Kind_COPY_END, ev_Kind_COPY_END⟩ := exa_v nn4
  have S_Kind_COPY_END := Sta.start ev_Kind_COPY_END (Or.inr ⟨hw _ (List.mem_of_getElem? (i := 3) rfl), hw _ (List.mem_of_getElem? (i := 13) rfl)⟩)
  have A_Kind_COPY_END := Exa.start ev_Kind_COPY_END nn4
  have F_Kind_COPIED_ordinal := Fld.start ((fld_at ev_Kind_COPIED).symm.trans (own_eqI nn5))
  have F_Kind_PUT_ordinal := Fld.start ((fld_at ev_Kind_PUT).symm.trans (own_eqI nn6))
  have F_Kind_DELETE_ordinal := Fld.start ((fld_at ev_Kind_DELETE).symm.trans (own_eqI nn7))
  have F_Kind_COPY_END_ordinal := Fld.start ((fld_at ev_Kind_COPY_END).symm.trans (own_eqI nn8))
  have F_Kind_COPY_ordinal := Fld.start ((fld_at ev_Kind_COPY).symm.trans (own_eqI nr8))
  obtain ⟨n, o, h1, h2, h3, _, L, rfl, ⟨hv, N⟩, hq⟩ := rm_law l s _ hw tables_1 i0 r_Kind_PUT r_Kind_DELETE r_Kind_COPY r_Kind_COPIED r_Kind_COPY_END s.heap s.heap.size (Nat.le_refl _) S_Kind_PUT S_Kind_DELETE S_Kind_COPY S_Kind_COPIED S_Kind_COPY_END A_Kind_PUT A_Kind_DELETE A_Kind_COPY A_Kind_COPIED A_Kind_COPY_END (Fld.ne F_Kind_PUT_ordinal F_Kind_DELETE_ordinal (by decide)) (Fld.ne F_Kind_PUT_ordinal F_Kind_COPY_ordinal (by decide)) (Fld.ne F_Kind_PUT_ordinal F_Kind_COPIED_ordinal (by decide)) (Fld.ne F_Kind_PUT_ordinal F_Kind_COPY_END_ordinal (by decide)) (Fld.ne F_Kind_DELETE_ordinal F_Kind_COPY_ordinal (by decide)) (Fld.ne F_Kind_DELETE_ordinal F_Kind_COPIED_ordinal (by decide)) (Fld.ne F_Kind_DELETE_ordinal F_Kind_COPY_END_ordinal (by decide)) (Fld.ne F_Kind_COPY_ordinal F_Kind_COPIED_ordinal (by decide)) (Fld.ne F_Kind_COPY_ordinal F_Kind_COPY_END_ordinal (by decide)) (Fld.ne F_Kind_COPIED_ordinal F_Kind_COPY_END_ordinal (by decide)) p e ha hc hk s m _ below hf ((Spec.applies_iff_loose hf).mp happ).1 ⟨rfl, State.Warmed39.refl s, rfl⟩ trivial
  subst hv
  refine ⟨n, _, h1, h2, h3, hpost _ _ _ _ _ _ ⟨Cond.after_iff.mpr rfl, Cond.after_iff.mpr (eq_i res_at (Term.int_eval (1)) rfl), trivial⟩ ⟨hq.1, hq.2.1, (hq.2.2.sift fun y hy => Or.inr (N y hy)).mono (by decide) (by decide)⟩⟩
theorem main_1_1 : Claimed_1_1 := comes_1 fun _ _ _ _ _ _ h hF => ⟨h.1, hF⟩
theorem main_1_2 : Claimed_1_2 := comes_1 fun _ _ _ _ _ _ h hF => ⟨h.2.1, hF⟩
end Jvm.Pilot.@@N@@
namespace Jvm.Pilot.@@N@@
open Jvm Jvm.ClassFile Sem Op Lib Jvm.Free Jvm.Stand Jvm.Pilot.@@N@@.Jvm.D
/-! MADE BY PROGRAM (witnessworld.py) out of the Statement's table words and the real class files: 13 classes; the members and pool entries that the words name. The judged class is class 1, her method 1. -/
namespace start1
open Jvm.ClassFile
def u (s : String) : CpInfo := .utf8 (stringToUtf16 s)
/-- a pool by its gaps: so many unusable entries, then the entry; so many at the end -/
def gap : Nat → List CpInfo → List CpInfo
  | 0, r => r
  | n + 1, r => .unusable :: gap n r
def poolList (es : List (Nat × CpInfo)) (last : Nat) : List CpInfo := es.foldr (fun e r => gap e.1 (e.2 :: r)) (gap last [])
def pool (es : List (Nat × CpInfo)) (last : Nat) : Array CpInfo := ⟨poolList es last⟩
def fileOf (pool : Array CpInfo) (this : Nat) (attrs : Array Attribute := #[]) (ms : Array MethodInfo := #[]) (fl : Nat := 33) (sup : Nat := 0) (ifs : Array Nat := #[]) (fds : Array FieldInfo := #[]) : ClassFile where
  minorVersion := 0
  majorVersion := 65
  constantPool := pool
  accessFlags := fl
  thisClass := this
  superClass := sup
  interfaces := ifs
  fields := fds
  methods := ms
  attributes := attrs
def plain (name : String) (sup : Option ClassId) : Class where
  name := name
  kind := .ordinary
  loader := none
  accessFlags := 33
  super := sup
  interfaces := #[]
  cf := none
  fields := #[]
  methods := #[]
  instanceTypes := #[]
  staticTypes := #[]
  resolved := #[]
  callSites := []
  init := .initialized
  statics := none
  mirror := none

def pool0 : Array CpInfo := pool [(5, u "<init>"), (0, u "()V"), (1, .class_ 10), (1, u "java/lang/Object")] 113

def k0m0 : Method := { name := "<init>", desc := "()V", sig := { parameters := [], returnType := none }, accessFlags := 1, code := none }
/-- java/lang/Object -/
def k0 : Class := { plain "java/lang/Object" none with
  accessFlags := 33
  interfaces := #[]
  cf := some (fileOf pool0 8 #[] #[{ accessFlags := 1, nameIndex := 5, descriptorIndex := 6, attributes := #[] }] 33 0 #[] #[])
  fields := #[]
  methods := #[k0m0]
  instanceTypes := #[]
  staticTypes := #[]
  resolved := Array.replicate 124 none
  statics := none }

def pool1 : Array CpInfo := pool [(2, .class_ 4), (1, u "java/lang/Object"), (0, u "<init>"), (0, u "()V"), (0, .class_ 8), (0, u "com/example/farshard/farshard/store/LoggedOp$Kind"), (0, .fieldref 7 10), (0, .nameAndType 11 12), (0, u "PUT"), (0, u "Lcom/example/farshard/farshard/store/LoggedOp$Kind;"), (0, .fieldref 7 14), (0, .nameAndType 15 12), (0, u "DELETE"), (0, .fieldref 7 17), (0, .nameAndType 18 12), (0, u "COPY"), (0, .fieldref 7 20), (0, .nameAndType 21 12), (0, u "COPIED"), (0, .fieldref 7 23), (0, .nameAndType 24 12), (0, u "COPY_END"), (0, .integer 2147483647), (0, .methodref 7 27), (0, .nameAndType 28 29), (0, u "isOperation"), (0, u "()Z"), (0, .class_ 31), (0, u "com/example/farshard/farshard/store/KindIsOperationPinLaw"), (2, u "law"), (0, u "(I)Z")] 9

def k1m0 : Method := { name := "<init>", desc := "()V", sig := { parameters := [], returnType := none }, accessFlags := 1, code := none }
def k1c1 : Code := { maxStack := 4, maxLocals := 4, code := code, exceptionTable := #[], attributes := #[] }
def k1m1 : Method := { name := "law", desc := "(I)Z", sig := { parameters := [.int], returnType := some .boolean }, accessFlags := 9, code := some k1c1 }
/-- com/example/farshard/farshard/store/KindIsOperationPinLaw -/
def k1 : Class := { plain "com/example/farshard/farshard/store/KindIsOperationPinLaw" (some 0) with
  accessFlags := 49
  interfaces := #[]
  cf := some (fileOf pool1 30 #[] #[{ accessFlags := 1, nameIndex := 5, descriptorIndex := 6, attributes := #[] }, { accessFlags := 9, nameIndex := 34, descriptorIndex := 35, attributes := #[] }] 49 2 #[] #[])
  fields := #[]
  methods := #[k1m0, k1m1]
  instanceTypes := #[]
  staticTypes := #[]
  resolved := Array.replicate 45 none
  statics := none }

def pool2 : Array CpInfo := pool [(1, .class_ 2), (0, u "java/lang/constant/Constable"), (0, .class_ 4), (0, u "java/lang/Object")] 6

/-- java/lang/constant/Constable -/
def k2 : Class := { plain "java/lang/constant/Constable" (some 0) with
  accessFlags := 1537
  interfaces := #[]
  cf := some (fileOf pool2 1 #[] #[] 1537 3 #[] #[])
  fields := #[]
  methods := #[]
  instanceTypes := #[]
  staticTypes := #[]
  resolved := Array.replicate 11 none
  statics := none }

def pool3 : Array CpInfo := pool [(1, .class_ 2), (0, u "java/lang/Comparable"), (0, .class_ 4), (0, u "java/lang/Object")] 7

/-- java/lang/Comparable -/
def k3 : Class := { plain "java/lang/Comparable" (some 0) with
  accessFlags := 1537
  interfaces := #[]
  cf := some (fileOf pool3 1 #[] #[] 1537 3 #[] #[])
  fields := #[]
  methods := #[]
  instanceTypes := #[]
  staticTypes := #[]
  resolved := Array.replicate 12 none
  statics := none }

def pool4 : Array CpInfo := pool [(1, .class_ 2), (0, u "java/io/Serializable"), (0, .class_ 4), (0, u "java/lang/Object")] 2

/-- java/io/Serializable -/
def k4 : Class := { plain "java/io/Serializable" (some 0) with
  accessFlags := 1537
  interfaces := #[]
  cf := some (fileOf pool4 1 #[] #[] 1537 3 #[] #[])
  fields := #[]
  methods := #[]
  instanceTypes := #[]
  staticTypes := #[]
  resolved := Array.replicate 7 none
  statics := none }

def pool5 : Array CpInfo := pool [(2, .class_ 4), (1, u "java/lang/Enum"), (0, u "name"), (0, u "Ljava/lang/String;"), (2, u "ordinal"), (0, u "I"), (1, .class_ 14), (1, u "java/lang/Object"), (4, u "hash"), (86, .class_ 108), (1, u "java/lang/Enum$EnumDesc"), (2, .class_ 112), (0, u "java/lang/constant/Constable"), (0, .class_ 114), (0, u "java/lang/Comparable"), (0, .class_ 116), (0, u "java/io/Serializable")] 87

/-- java/lang/Enum -/
def k5 : Class := { plain "java/lang/Enum" (some 0) with
  accessFlags := 1057
  interfaces := #[2, 3, 4]
  cf := some (fileOf pool5 2 #[.nestMembers #[106]] #[] 1057 12 #[111, 113, 115] #[{ accessFlags := 18, nameIndex := 5, descriptorIndex := 6, attributes := #[] }, { accessFlags := 18, nameIndex := 9, descriptorIndex := 10, attributes := #[] }, { accessFlags := 2, nameIndex := 19, descriptorIndex := 10, attributes := #[] }])
  fields := #[{ name := "name", type := (.object "java/lang/String"), accessFlags := 18, slot := 0, constantValue := 0 }, { name := "ordinal", type := .int, accessFlags := 18, slot := 1, constantValue := 0 }, { name := "hash", type := .int, accessFlags := 2, slot := 2, constantValue := 0 }]
  methods := #[]
  instanceTypes := #[(.object "java/lang/String"), .int, .int]
  staticTypes := #[]
  resolved := Array.replicate 204 none
  statics := none }

def pool6 : Array CpInfo := pool [(1, .class_ 2), (0, u "com/example/farshard/farshard/store/LoggedOp$Kind"), (0, .fieldref 1 4), (0, .nameAndType 5 6), (0, u "PUT"), (0, u "Lcom/example/farshard/farshard/store/LoggedOp$Kind;"), (0, .fieldref 1 8), (0, .nameAndType 9 6), (0, u "DELETE"), (2, u "COPY"), (2, u "COPIED"), (2, u "COPY_END"), (2, u "$VALUES"), (0, u "[Lcom/example/farshard/farshard/store/LoggedOp$Kind;"), (6, .class_ 31), (1, u "java/lang/Enum"), (23, u "isOperation"), (0, u "()Z"), (6, .class_ 64), (0, u "com/example/farshard/farshard/store/LoggedOp")] 2

def k6c0 : Code := { maxStack := 2, maxLocals := 1, code := prog_62_method_4_code, exceptionTable := #[], attributes := #[] }
def k6m0 : Method := { name := "isOperation", desc := "()Z", sig := { parameters := [], returnType := some .boolean }, accessFlags := 0, code := some k6c0 }
/-- com/example/farshard/farshard/store/LoggedOp$Kind -/
def k6 : Class := { plain "com/example/farshard/farshard/store/LoggedOp$Kind" (some 5) with
  accessFlags := 16432
  interfaces := #[]
  cf := some (fileOf pool6 1 #[.nestHost 63] #[{ accessFlags := 0, nameIndex := 55, descriptorIndex := 56, attributes := #[] }] 16432 29 #[] #[{ accessFlags := 16409, nameIndex := 5, descriptorIndex := 6, attributes := #[] }, { accessFlags := 16409, nameIndex := 9, descriptorIndex := 6, attributes := #[] }, { accessFlags := 16409, nameIndex := 12, descriptorIndex := 6, attributes := #[] }, { accessFlags := 16409, nameIndex := 15, descriptorIndex := 6, attributes := #[] }, { accessFlags := 16409, nameIndex := 18, descriptorIndex := 6, attributes := #[] }, { accessFlags := 4122, nameIndex := 21, descriptorIndex := 22, attributes := #[] }])
  fields := #[{ name := "PUT", type := (.object "com/example/farshard/farshard/store/LoggedOp$Kind"), accessFlags := 16409, slot := 0, constantValue := 0 }, { name := "DELETE", type := (.object "com/example/farshard/farshard/store/LoggedOp$Kind"), accessFlags := 16409, slot := 1, constantValue := 0 }, { name := "COPY", type := (.object "com/example/farshard/farshard/store/LoggedOp$Kind"), accessFlags := 16409, slot := 2, constantValue := 0 }, { name := "COPIED", type := (.object "com/example/farshard/farshard/store/LoggedOp$Kind"), accessFlags := 16409, slot := 3, constantValue := 0 }, { name := "COPY_END", type := (.object "com/example/farshard/farshard/store/LoggedOp$Kind"), accessFlags := 16409, slot := 4, constantValue := 0 }, { name := "$VALUES", type := (.array (.object "com/example/farshard/farshard/store/LoggedOp$Kind")), accessFlags := 4122, slot := 5, constantValue := 0 }]
  methods := #[k6m0]
  instanceTypes := #[(.object "java/lang/String"), .int, .int]
  staticTypes := #[(.object "com/example/farshard/farshard/store/LoggedOp$Kind"), (.object "com/example/farshard/farshard/store/LoggedOp$Kind"), (.object "com/example/farshard/farshard/store/LoggedOp$Kind"), (.object "com/example/farshard/farshard/store/LoggedOp$Kind"), (.object "com/example/farshard/farshard/store/LoggedOp$Kind"), (.array (.object "com/example/farshard/farshard/store/LoggedOp$Kind"))]
  resolved := Array.replicate 67 none
  statics := some 0 }

def pool7 : Array CpInfo := pool [(1, u "java/lang/Cloneable"), (0, .class_ 1), (0, u "java/lang/Object"), (0, .class_ 3)] 3

/-- java/lang/Cloneable -/
def k7 : Class := { plain "java/lang/Cloneable" (some 0) with
  accessFlags := 1537
  interfaces := #[]
  cf := some (fileOf pool7 2 #[] #[] 1537 4 #[] #[])
  fields := #[]
  methods := #[]
  instanceTypes := #[]
  staticTypes := #[]
  resolved := Array.replicate 8 none
  statics := none }

/-- the primitive byte -/
def k8 : Class := { plain "byte" none with kind := .primitive 'B', accessFlags := 0x411 }
/-- [B -/
def k9 : Class := { plain "[B" (some 0) with kind := .array 8 .byte, interfaces := #[7, 4], accessFlags := 1041 }

/-- the primitive int -/
def k10 : Class := { plain "int" none with kind := .primitive 'I', accessFlags := 0x411 }
/-- [I -/
def k11 : Class := { plain "[I" (some 0) with kind := .array 10 .int, interfaces := #[7, 4], accessFlags := 1041 }

/-- [Lcom/example/farshard/farshard/store/LoggedOp$Kind; -/
def k12 : Class := { plain "[Lcom/example/farshard/farshard/store/LoggedOp$Kind;" (some 0) with kind := .array 6 (.object "com/example/farshard/farshard/store/LoggedOp$Kind"), interfaces := #[7, 4], accessFlags := 1041 }

def heap : Heap := #[{ cls := 6, slots := #[.ref 1, .ref 2, .ref 3, .ref 4, .ref 5, .null], vm := .statics 6 },
  { cls := 6, slots := #[.null, .int 0, .int 0], vm := .none },
  { cls := 6, slots := #[.null, .int 1, .int 0], vm := .none },
  { cls := 6, slots := #[.null, .int 2, .int 0], vm := .none },
  { cls := 6, slots := #[.null, .int 3, .int 0], vm := .none },
  { cls := 6, slots := #[.null, .int 4, .int 0], vm := .none }]
def classes : Array Class := #[k0, k1, k2, k3, k4, k5, k6, k7, k8, k9, k10, k11, k12]
def interned : List (Array UInt16 × Addr) := []
def slotsUsed : Nat := 21
def theMethod : MethodId := ⟨1, 1⟩
def args0 : Array Value := #[.int 5]
def aboutOver (below : List Frame) : State where
  vm := { classes := classes, interned := interned.toArray }
  heap := heap
  slotsUsed := slotsUsed
  threads := #[{ frames := .invoking theMethod args0 :: below }]
def below0 : List Frame := [.native { method := ⟨0, 0⟩, args := #[] }]
def about1 : State := aboutOver below0
def p0 : Program := .bare "" "" ""
def e0 : Env := launch0.env 0 0 0
theorem w_frames : about1.frames = Frame.invoking theMethod args0 :: below0 := rfl
set_option maxRecDepth 65536 in
theorem w_args : argsFit about1.vm theMethod args0 = true := by decide +kernel
set_option maxRecDepth 65536 in
theorem w_heap : heapFits about1 = true := by decide +kernel
set_option maxRecDepth 65536 in
theorem w_runnable : about1.curStatus? = some .runnable := by decide +kernel
set_option maxRecDepth 65536 in
theorem w_alone : about1.alone = true := by decide +kernel
set_option maxRecDepth 65536 in
theorem w_named : about1.methodNamed? x = some theMethod := by decide +kernel
set_option maxRecDepth 65536 in
theorem w_hears : about1.hears theMethod below0 = true := by decide +kernel
set_option maxRecDepth 65536 in
theorem w_ripe : about1.ripe theMethod args0 below0 = true := by decide +kernel
theorem w_running : about1.status = .running := rfl
set_option maxRecDepth 65536 in
theorem w_room : about1.hasRoom e0.platform room_1 = true :=
  launch0.hasRoom_least _ room_1 (by decide +kernel) (by decide +kernel) (by decide +kernel) (by decide +kernel) (by decide +kernel) (by decide +kernel)
theorem allAtoms_all (ts : List Jvm.Cond) (a : Array Jvm.Value) (st : Jvm.State) : (allAtoms ts).before a st = ts.all (fun c => c.before a st) := by
  induction ts with
  | nil => rfl
  | cons c t ih =>
    show (Jvm.Cond.and c (allAtoms t)).before a st = _
    rw [Jvm.Cond.before_and, ih, List.all_cons]
def words1 : List Jvm.Cond := Jvm.Cond.code x code maxLocals ret :: tables_1
/-- a 'code' word, met by the world's own term for the bytes: nothing is compared byte by byte -/
theorem code_word {y : MethodName} {bytes : ByteArray} {mx : Nat} {rt : Option FieldType} {a : Array Value} {s : State} {m : MethodId} {meth : Method} {c : Code} (h1 : s.methodNamed? y = some m) (h2 : s.vm.method? m = some meth) (h3 : meth.code = some c) (h4 : c.code = bytes)
    (h5 : (c.maxLocals == mx && c.exceptionTable.isEmpty && decide (c.maxStack ≤ mostOperands) && decide (meth.sig.returnType = rt) && !meth.locks && decide (parseMethodDescriptor y.desc = some meth.sig)) = true) : (Jvm.Cond.code y bytes mx rt).before a s = true := by
  simp only [Bool.and_eq_true, beq_iff_eq, Bool.not_eq_true', decide_eq_true_eq] at h5
  obtain ⟨⟨⟨⟨⟨g1, g2⟩, g3⟩, g4⟩, g5⟩, g6⟩ := h5
  simp [Cond.before, Cond.holds, Cond.value, h1, h2, h3, h4, g1, g2, g3, g4, g5, g6]
def isCode : Jvm.Cond → Bool
  | .code _ _ _ _ => true
  | _ => false
theorem all_split {L : List Jvm.Cond} {P : Jvm.Cond → Bool} (h1 : L.all (fun c => isCode c || P c) = true) (h2 : ∀ c ∈ L.filter isCode, P c = true) : L.all P = true := by
  refine List.all_eq_true.mpr fun c hc => ?_
  have h := List.all_eq_true.mp h1 c hc
  rcases Bool.eq_false_or_eq_true (isCode c) with hi | hi
  · exact h2 c (List.mem_filter.mpr ⟨hc, hi⟩)
  · simpa [hi] using h
set_option maxRecDepth 65536 in
theorem w_c0 : (Jvm.Cond.code x code maxLocals ret).before args0 about1 = true := code_word (m := ⟨1, 1⟩) (meth := k1m1) (c := k1c1) (by decide +kernel) rfl rfl rfl (by decide +kernel)
set_option maxRecDepth 65536 in
theorem w_c1 : (Jvm.Cond.code ({ cls := "com/example/farshard/farshard/store/LoggedOp$Kind", name := "isOperation", desc := "()Z" } : Jvm.MethodName) prog_62_method_4_code (1 : Nat) (Option.some Jvm.ClassFile.FieldType.boolean)).before args0 about1 = true := code_word (m := ⟨6, 0⟩) (meth := k6m0) (c := k6c0) (by decide +kernel) rfl rfl rfl (by decide +kernel)
def codes1 : List Jvm.Cond := [Jvm.Cond.code x code maxLocals ret, Jvm.Cond.code ({ cls := "com/example/farshard/farshard/store/LoggedOp$Kind", name := "isOperation", desc := "()Z" } : Jvm.MethodName) prog_62_method_4_code (1 : Nat) (Option.some Jvm.ClassFile.FieldType.boolean)]
set_option maxRecDepth 65536 in
theorem codes_eq : words1.filter isCode = codes1 := rfl
theorem w_codes : ∀ c ∈ words1.filter isCode, c.before args0 about1 = true := by
  rw [codes_eq]
  intro c hc
  simp only [codes1, List.mem_cons, List.not_mem_nil, or_false] at hc
  rcases hc with rfl | rfl
  · exact w_c0
  · exact w_c1
set_option maxRecDepth 65536 in
theorem w_t1 : words1.all (fun c => isCode c || c.before args0 about1) = true := by decide +kernel
theorem w_tables : (allAtoms (Jvm.Cond.code x code maxLocals ret :: tables_1)).before args0 about1 = true := by
  rw [allAtoms_all]
  show words1.all (fun c => c.before args0 about1) = true
  refine all_split ?_ w_codes
  rw [w_t1]
set_option maxRecDepth 65536 in
theorem w_case : (Jvm.Cond.and given_1 narrow_1).before args0 about1 = true := by decide +kernel
theorem w_applies : (headSpec (Jvm.Cond.code x code maxLocals ret :: tables_1) room_1).applies x e0.platform about1 = true :=
  (Spec.applies_iff w_frames).mpr ⟨w_running, w_runnable, w_alone, w_named, w_hears, w_ripe, w_room, w_tables⟩
theorem atStart : AtStart classFile x code maxLocals ret World_1 tables_1 room_1 Calls_1 rest_1 Pre_1 launch0 p0 e0 about1 theMethod args0 below0 :=
  ⟨lists_1, trivial, launch0.admits_env _ _ _, launch0.least_env, fairChoices_fair.cas, fairChoices_fair.clock, w_frames, w_args, w_heap, w_applies, trivial, trivial, w_case⟩
end start1
theorem witness_1 : WitnessClaimed_1 := ⟨start1.p0, start1.e0, start1.about1, start1.theMethod, start1.args0, start1.below0, start1.atStart⟩
end Jvm.Pilot.@@N@@
