import JvmDerived
import JvmDerived.Pilot.@@N@@Statement
import JvmDerived.Pilot.@@N@@Code
set_option linter.unusedVariables false
set_option linter.unusedSimpArgs false
namespace Jvm.Pilot.@@N@@
open Jvm Jvm.ClassFile Sem Op Lib Jvm.Free Jvm.Stand Jvm.LawKit Jvm.RoadKit Bundle Jvm.Pilot.@@N@@.Jvm.D
section OwnKit
variable {p : Program} {l : Launch} {e : Env} {R : Room} {s : State} {m : MethodId} {args : Array Value} {below : List Frame} {meth : Method} {c : Code} {T T' : State} {locs : List Loc} {cells slots : Nat} {P : Outcome → State → Prop} {Q : Option Value → Heap → List Loc → Prop} {cC cS : Nat} {bytes : ByteArray} {ls : Array Slot} {st : List Value} {pc pc' : Nat} {g g' : JFrame} {Z : State} {a0 : Array Value} {h h' : Heap}
/-- from this state and frame the method comes to its end, returns, and Q holds of what it leaves -/
def own_Got (p : Program) (e : Env) (below : List Frame) (P : Outcome → State → Prop) (T : State) (g : JFrame) : Prop :=
  ∃ s₂ o, Steps p.tables e below (T.setTop g) s₂ ∧ s₂.status = .running ∧ Ended s₂ below o ∧ P o s₂
/-- what a contract says of the end -/
def own_End (s : State) (Q : Option Value → Heap → List Loc → Prop) (cC cS : Nat) (o : Outcome) (U : State) : Prop := ∃ v L, o = .returned v ∧ Q v U.heap L ∧ FrameEnd s o U L cC cS
theorem own_go (k : ∀ t, Steps p.tables e below (T'.setTop g') t → Steps p.tables e below (T.setTop g) t) (h : own_Got p e below P T' g') : own_Got p e below P T g := by
  obtain ⟨s2, o, h1, h2⟩ := h; exact ⟨s2, o, k _ h1, h2⟩
theorem own_tr (k : Steps p.tables e below (T.setTop g) (T'.setTop g')) (h : own_Got p e below P T' g') : own_Got p e below P T g := own_go (fun _ q => k.trans q) h
theorem own_cast (q : g = g') (h : own_Got p e below P T g') : own_Got p e below P T g := q ▸ h
theorem own_retV (X : Stand p l e R s m args below meth c T locs cells slots) (hx : p.tables.exec = Jvm.exec) (hby : c.code = bytes) (hlk : meth.locks = false) (hret : meth.sig.returnType = none) (hd : decode bytes pc = .ok (.return_, 1)) (hc : cells ≤ cC) (hs : slots ≤ cS)
    (hq : Q none T.heap locs) : own_Got p e below (own_End s Q cC cS) T (mkF m pc ls []) := by
  obtain ⟨fs, hr, hrun, hended, hW, hsame⟩ := X.leave (v := none) (fun _ => rfl) hlk
  exact ⟨_, _, X.returnOut hx hret (hb hby hd) hr, hrun, hended, _, _, rfl, hq, ⟨_, rfl⟩, hW, hsame.mono hc hs⟩
theorem own_retI (X : Stand p l e R s m args below meth c T locs cells slots) (hx : p.tables.exec = Jvm.exec) (hby : c.code = bytes) (hlk : meth.locks = false) (hret : meth.sig.returnType = some .int) (hd : decode bytes pc = .ok (.ireturn, 1)) (hc : cells ≤ cC) (hs : slots ≤ cS) {z : Int32}
    (hq : Q (some (.int z)) T.heap locs) : own_Got p e below (own_End s Q cC cS) T (mkF m pc ls (.int z :: st)) := by
  obtain ⟨fs, hr, hrun, hended, hW, hsame⟩ := X.leave (v := some (.int z)) (fun h => by rw [hret] at h; cases h) hlk
  exact ⟨_, _, retOut X hx hret rfl (Or.inl ⟨rfl, Or.inl rfl, _, rfl⟩) (hb hby hd) hr, hrun, hended, _, _, rfl, hq, ⟨_, rfl⟩, hW, hsame.mono hc hs⟩
theorem own_retL (X : Stand p l e R s m args below meth c T locs cells slots) (hx : p.tables.exec = Jvm.exec) (hby : c.code = bytes) (hlk : meth.locks = false) (hret : meth.sig.returnType = some .long) (hd : decode bytes pc = .ok (.lreturn, 1)) (hc : cells ≤ cC) (hs : slots ≤ cS) {z : Int64}
    (hq : Q (some (.long z)) T.heap locs) : own_Got p e below (own_End s Q cC cS) T (mkF m pc ls (.long z :: st)) := by
  obtain ⟨fs, hr, hrun, hended, hW, hsame⟩ := X.leave (v := some (.long z)) (fun h => by rw [hret] at h; cases h) hlk
  exact ⟨_, _, retOut X hx hret rfl (Or.inr (Or.inl ⟨rfl, rfl, _, rfl⟩)) (hb hby hd) hr, hrun, hended, _, _, rfl, hq, ⟨_, rfl⟩, hW, hsame.mono hc hs⟩
theorem own_retD (X : Stand p l e R s m args below meth c T locs cells slots) (hx : p.tables.exec = Jvm.exec) (hby : c.code = bytes) (hlk : meth.locks = false) (hret : meth.sig.returnType = some .double) (hd : decode bytes pc = .ok (.dreturn, 1)) (hc : cells ≤ cC) (hs : slots ≤ cS) {z : UInt64}
    (hq : Q (some (.double z)) T.heap locs) : own_Got p e below (own_End s Q cC cS) T (mkF m pc ls (.double z :: st)) := by
  obtain ⟨fs, hr, hrun, hended, hW, hsame⟩ := X.leave (v := some (.double z)) (fun h => by rw [hret] at h; cases h) hlk
  exact ⟨_, _, retOut X hx hret rfl (Or.inr (Or.inr (Or.inl ⟨rfl, rfl, _, rfl⟩))) (hb hby hd) hr, hrun, hended, _, _, rfl, hq, ⟨_, rfl⟩, hW, hsame.mono hc hs⟩
theorem own_retN (X : Stand p l e R s m args below meth c T locs cells slots) (hx : p.tables.exec = Jvm.exec) (hby : c.code = bytes) (hlk : meth.locks = false) {t : FieldType} (hret : meth.sig.returnType = some t) (ht : t = .boolean ∨ t = .byte ∨ t = .char ∨ t = .short) (hd : decode bytes pc = .ok (.ireturn, 1)) (hc : cells ≤ cC) (hs : slots ≤ cS) {z : Int32}
    (hq : Q (some (.int (nar t z))) T.heap locs) : own_Got p e below (own_End s Q cC cS) T (mkF m pc ls (.int z :: st)) := by
  obtain ⟨fs, hr, hrun, hended, hW, hsame⟩ := X.leave (v := some (.int (nar t z))) (fun h => by rw [hret] at h; cases h) hlk
  exact ⟨_, _, retN X hx hret ht (hb hby hd) hr, hrun, hended, _, _, rfl, hq, ⟨_, rfl⟩, hW, hsame.mono hc hs⟩
theorem own_retR (X : Stand p l e R s m args below meth c T locs cells slots) (hx : p.tables.exec = Jvm.exec) (hby : c.code = bytes) (hlk : meth.locks = false) {t : FieldType} (hret : meth.sig.returnType = some t) (ht : t.isReference = true) (hd : decode bytes pc = .ok (.areturn, 1)) (hc : cells ≤ cC) (hs : slots ≤ cS) {w : Value} (hw : w.isRef = true)
    (hq : Q (some w) T.heap locs) : own_Got p e below (own_End s Q cC cS) T (mkF m pc ls (w :: st)) := by
  obtain ⟨fs, hr, hrun, hended, hW, hsame⟩ := X.leave (v := some w) (fun h => by rw [hret] at h; cases h) hlk
  have hn : narrow t w = w := by rcases ref_cases hw with rfl | ⟨a, rfl⟩ <;> cases t <;> first | rfl | (cases ht)
  exact ⟨_, _, retOut X hx hret hn (Or.inr (Or.inr (Or.inr (Or.inr ⟨rfl, ht, hw⟩)))) (hb hby hd) hr, hrun, hended, _, _, rfl, hq, ⟨_, rfl⟩, hW, hsame.mono hc hs⟩
theorem g_iloadN (X : Stand p l e R s m args below meth c T locs cells slots) (hx : p.tables.exec = Jvm.exec) (hby : c.code = bytes) {k : Fin 4} {v : Int32} (hd : decode bytes pc = .ok (.iload_n k, 1)) (hl : ls[k.val]? = some (.val (.int v))) (hp : pc + 1 = pc')
    (k : own_Got p e below P T (mkF m pc' ls (.int v :: st))) : own_Got p e below P T (mkF m pc ls (st)) := by
  subst hp; exact own_go (fun _ q => XS.iloadN X.here hx rfl (hb hby hd) hl q) k
theorem g_iload (X : Stand p l e R s m args below meth c T locs cells slots) (hx : p.tables.exec = Jvm.exec) (hby : c.code = bytes) {k : Nat} {v : Int32} (hd : decode bytes pc = .ok (.iload k, 2)) (hl : ls[k]? = some (.val (.int v))) (hp : pc + 2 = pc')
    (k : own_Got p e below P T (mkF m pc' ls (.int v :: st))) : own_Got p e below P T (mkF m pc ls (st)) := by
  subst hp; exact own_go (fun _ q => XS.iload X.here hx rfl (hb hby hd) hl q) k
theorem g_lloadN (X : Stand p l e R s m args below meth c T locs cells slots) (hx : p.tables.exec = Jvm.exec) (hby : c.code = bytes) {k : Fin 4} {v : Int64} (hd : decode bytes pc = .ok (.lload_n k, 1)) (hl : ls[k.val]? = some (.val (.long v))) (hp : pc + 1 = pc')
    (k : own_Got p e below P T (mkF m pc' ls (.long v :: st))) : own_Got p e below P T (mkF m pc ls (st)) := by
  subst hp; exact own_go (fun _ q => XS.lloadN X.here hx rfl (hb hby hd) hl q) k
theorem g_lload (X : Stand p l e R s m args below meth c T locs cells slots) (hx : p.tables.exec = Jvm.exec) (hby : c.code = bytes) {k : Nat} {v : Int64} (hd : decode bytes pc = .ok (.lload k, 2)) (hl : ls[k]? = some (.val (.long v))) (hp : pc + 2 = pc')
    (k : own_Got p e below P T (mkF m pc' ls (.long v :: st))) : own_Got p e below P T (mkF m pc ls (st)) := by
  subst hp; exact own_go (fun _ q => XS.lload X.here hx rfl (hb hby hd) hl q) k
theorem g_dloadN (X : Stand p l e R s m args below meth c T locs cells slots) (hx : p.tables.exec = Jvm.exec) (hby : c.code = bytes) {k : Fin 4} {v : UInt64} (hd : decode bytes pc = .ok (.dload_n k, 1)) (hl : ls[k.val]? = some (.val (.double v))) (hp : pc + 1 = pc')
    (k : own_Got p e below P T (mkF m pc' ls (.double v :: st))) : own_Got p e below P T (mkF m pc ls (st)) := by
  subst hp; exact own_go (fun _ q => XS.dloadN X.here hx rfl (hb hby hd) hl q) k
theorem g_dload (X : Stand p l e R s m args below meth c T locs cells slots) (hx : p.tables.exec = Jvm.exec) (hby : c.code = bytes) {k : Nat} {v : UInt64} (hd : decode bytes pc = .ok (.dload k, 2)) (hl : ls[k]? = some (.val (.double v))) (hp : pc + 2 = pc')
    (k : own_Got p e below P T (mkF m pc' ls (.double v :: st))) : own_Got p e below P T (mkF m pc ls (st)) := by
  subst hp; exact own_go (fun _ q => XS.dload X.here hx rfl (hb hby hd) hl q) k
theorem g_aloadN (X : Stand p l e R s m args below meth c T locs cells slots) (hx : p.tables.exec = Jvm.exec) (hby : c.code = bytes) {k : Fin 4} {v : Value} (hd : decode bytes pc = .ok (.aload_n k, 1)) (hl : ls[k.val]? = some (.val v)) (hv : v.isRef = true) (hp : pc + 1 = pc')
    (k : own_Got p e below P T (mkF m pc' ls (v :: st))) : own_Got p e below P T (mkF m pc ls (st)) := by
  subst hp; exact own_go (fun _ q => XS.aloadN X.here hx rfl (hb hby hd) hl hv q) k
theorem g_aload (X : Stand p l e R s m args below meth c T locs cells slots) (hx : p.tables.exec = Jvm.exec) (hby : c.code = bytes) {k : Nat} {v : Value} (hd : decode bytes pc = .ok (.aload k, 2)) (hl : ls[k]? = some (.val v)) (hv : v.isRef = true) (hp : pc + 2 = pc')
    (k : own_Got p e below P T (mkF m pc' ls (v :: st))) : own_Got p e below P T (mkF m pc ls (st)) := by
  subst hp; exact own_go (fun _ q => XS.aload X.here hx rfl (hb hby hd) hl hv q) k
theorem g_istoreN (X : Stand p l e R s m args below meth c T locs cells slots) (hx : p.tables.exec = Jvm.exec) (hby : c.code = bytes) {k : Fin 4} {x : Int32} (ls' : Array Slot) (hd : decode bytes pc = .ok (.istore_n k, 1)) (hl : storeLocals ls k.val (.int x) = some ls') (hp : pc + 1 = pc')
    (k : own_Got p e below P T (mkF m pc' ls' (st))) : own_Got p e below P T (mkF m pc ls (.int x :: st)) := by
  subst hp; exact own_go (fun _ q => XS.istoreN X.here hx rfl (hb hby hd) rfl hl q) k
theorem g_istore (X : Stand p l e R s m args below meth c T locs cells slots) (hx : p.tables.exec = Jvm.exec) (hby : c.code = bytes) {k : Nat} {x : Int32} (ls' : Array Slot) (hd : decode bytes pc = .ok (.istore k, 2)) (hl : storeLocals ls k (.int x) = some ls') (hp : pc + 2 = pc')
    (k : own_Got p e below P T (mkF m pc' ls' (st))) : own_Got p e below P T (mkF m pc ls (.int x :: st)) := by
  subst hp; exact own_go (fun _ q => XS.istore X.here hx rfl (hb hby hd) rfl hl q) k
theorem g_lstoreN (X : Stand p l e R s m args below meth c T locs cells slots) (hx : p.tables.exec = Jvm.exec) (hby : c.code = bytes) {k : Fin 4} {x : Int64} (ls' : Array Slot) (hd : decode bytes pc = .ok (.lstore_n k, 1)) (hl : storeLocals ls k.val (.long x) = some ls') (hp : pc + 1 = pc')
    (k : own_Got p e below P T (mkF m pc' ls' (st))) : own_Got p e below P T (mkF m pc ls (.long x :: st)) := by
  subst hp; exact own_go (fun _ q => XS.lstoreN X.here hx rfl (hb hby hd) rfl hl q) k
theorem g_lstore (X : Stand p l e R s m args below meth c T locs cells slots) (hx : p.tables.exec = Jvm.exec) (hby : c.code = bytes) {k : Nat} {x : Int64} (ls' : Array Slot) (hd : decode bytes pc = .ok (.lstore k, 2)) (hl : storeLocals ls k (.long x) = some ls') (hp : pc + 2 = pc')
    (k : own_Got p e below P T (mkF m pc' ls' (st))) : own_Got p e below P T (mkF m pc ls (.long x :: st)) := by
  subst hp; exact own_go (fun _ q => XS.lstore X.here hx rfl (hb hby hd) rfl hl q) k
theorem g_dstoreN (X : Stand p l e R s m args below meth c T locs cells slots) (hx : p.tables.exec = Jvm.exec) (hby : c.code = bytes) {k : Fin 4} {x : UInt64} (ls' : Array Slot) (hd : decode bytes pc = .ok (.dstore_n k, 1)) (hl : storeLocals ls k.val (.double x) = some ls') (hp : pc + 1 = pc')
    (k : own_Got p e below P T (mkF m pc' ls' (st))) : own_Got p e below P T (mkF m pc ls (.double x :: st)) := by
  subst hp; exact own_go (fun _ q => XS.dstoreN X.here hx rfl (hb hby hd) rfl hl q) k
theorem g_dstore (X : Stand p l e R s m args below meth c T locs cells slots) (hx : p.tables.exec = Jvm.exec) (hby : c.code = bytes) {k : Nat} {x : UInt64} (ls' : Array Slot) (hd : decode bytes pc = .ok (.dstore k, 2)) (hl : storeLocals ls k (.double x) = some ls') (hp : pc + 2 = pc')
    (k : own_Got p e below P T (mkF m pc' ls' (st))) : own_Got p e below P T (mkF m pc ls (.double x :: st)) := by
  subst hp; exact own_go (fun _ q => XS.dstore X.here hx rfl (hb hby hd) rfl hl q) k
theorem g_astoreN (X : Stand p l e R s m args below meth c T locs cells slots) (hx : p.tables.exec = Jvm.exec) (hby : c.code = bytes) {k : Fin 4} {x : Value} (ls' : Array Slot) (hd : decode bytes pc = .ok (.astore_n k, 1)) (hv : x.isRef = true) (hl : storeLocals ls k.val x = some ls') (hp : pc + 1 = pc')
    (k : own_Got p e below P T (mkF m pc' ls' (st))) : own_Got p e below P T (mkF m pc ls (x :: st)) := by
  subst hp; exact own_go (fun _ q => XS.astoreN X.here hx rfl (hb hby hd) rfl hv hl q) k
theorem g_astore (X : Stand p l e R s m args below meth c T locs cells slots) (hx : p.tables.exec = Jvm.exec) (hby : c.code = bytes) {k : Nat} {x : Value} (ls' : Array Slot) (hd : decode bytes pc = .ok (.astore k, 2)) (hv : x.isRef = true) (hl : storeLocals ls k x = some ls') (hp : pc + 2 = pc')
    (k : own_Got p e below P T (mkF m pc' ls' (st))) : own_Got p e below P T (mkF m pc ls (x :: st)) := by
  subst hp; exact own_go (fun _ q => XS.astore X.here hx rfl (hb hby hd) rfl hv hl q) k
theorem g_iconst (X : Stand p l e R s m args below meth c T locs cells slots) (hx : p.tables.exec = Jvm.exec) (hby : c.code = bytes) {i : Int} (z : Int32) (hd : decode bytes pc = .ok (.iconst i, 1)) (hz : Int32.ofInt i = z) (hp : pc + 1 = pc')
    (k : own_Got p e below P T (mkF m pc' ls (.int z :: st))) : own_Got p e below P T (mkF m pc ls (st)) := by
  subst hp; subst hz; exact own_go (fun _ q => XS.iconst X.here hx rfl (hb hby hd) q) k
theorem g_bipush (X : Stand p l e R s m args below meth c T locs cells slots) (hx : p.tables.exec = Jvm.exec) (hby : c.code = bytes) {i : Int} (z : Int32) (hd : decode bytes pc = .ok (.bipush i, 2)) (hz : (Int8.ofInt i).toInt32 = z) (hp : pc + 2 = pc')
    (k : own_Got p e below P T (mkF m pc' ls (.int z :: st))) : own_Got p e below P T (mkF m pc ls (st)) := by
  subst hp; subst hz; exact own_go (fun _ q => XS.bipush X.here hx rfl (hb hby hd) q) k
theorem g_sipush (X : Stand p l e R s m args below meth c T locs cells slots) (hx : p.tables.exec = Jvm.exec) (hby : c.code = bytes) {i : Int} (z : Int32) (hd : decode bytes pc = .ok (.sipush i, 3)) (hz : (Int16.ofInt i).toInt32 = z) (hp : pc + 3 = pc')
    (k : own_Got p e below P T (mkF m pc' ls (.int z :: st))) : own_Got p e below P T (mkF m pc ls (st)) := by
  subst hp; subst hz; exact own_go (fun _ q => XS.sipush X.here hx rfl (hb hby hd) q) k
theorem g_lconst (X : Stand p l e R s m args below meth c T locs cells slots) (hx : p.tables.exec = Jvm.exec) (hby : c.code = bytes) {i : Fin 2} (z : Int64) (hd : decode bytes pc = .ok (.lconst i, 1)) (hz : Int64.ofNat i.val = z) (hp : pc + 1 = pc')
    (k : own_Got p e below P T (mkF m pc' ls (.long z :: st))) : own_Got p e below P T (mkF m pc ls (st)) := by
  subst hp; subst hz; exact own_go (fun _ q => XS.lconst X.here hx rfl (hb hby hd) q) k
theorem g_anull (X : Stand p l e R s m args below meth c T locs cells slots) (hx : p.tables.exec = Jvm.exec) (hby : c.code = bytes)  (hd : decode bytes pc = .ok (.aconst_null, 1))  (hp : pc + 1 = pc')
    (k : own_Got p e below P T (mkF m pc' ls (.null :: st))) : own_Got p e below P T (mkF m pc ls (st)) := by
  subst hp; exact own_go (fun _ q => XS.aconstNull X.here hx rfl (hb hby hd) q) k
theorem g_iadd (X : Stand p l e R s m args below meth c T locs cells slots) (hx : p.tables.exec = Jvm.exec) (hby : c.code = bytes) {x y : Int32} (hd : decode bytes pc = .ok (.iadd, 1))  (hp : pc + 1 = pc')
    (k : own_Got p e below P T (mkF m pc' ls (.int (x + y) :: st))) : own_Got p e below P T (mkF m pc ls (.int y :: .int x :: st)) := by
  subst hp; exact own_go (fun _ q => XS.iadd X.here hx rfl (hb hby hd) rfl q) k
theorem g_isub (X : Stand p l e R s m args below meth c T locs cells slots) (hx : p.tables.exec = Jvm.exec) (hby : c.code = bytes) {x y : Int32} (hd : decode bytes pc = .ok (.isub, 1))  (hp : pc + 1 = pc')
    (k : own_Got p e below P T (mkF m pc' ls (.int (x - y) :: st))) : own_Got p e below P T (mkF m pc ls (.int y :: .int x :: st)) := by
  subst hp; exact own_go (fun _ q => XS.isub X.here hx rfl (hb hby hd) rfl q) k
theorem g_iand (X : Stand p l e R s m args below meth c T locs cells slots) (hx : p.tables.exec = Jvm.exec) (hby : c.code = bytes) {x y : Int32} (hd : decode bytes pc = .ok (.iand, 1))  (hp : pc + 1 = pc')
    (k : own_Got p e below P T (mkF m pc' ls (.int (x &&& y) :: st))) : own_Got p e below P T (mkF m pc ls (.int y :: .int x :: st)) := by
  subst hp; exact own_go (fun _ q => XS.iand X.here hx rfl (hb hby hd) rfl q) k
theorem g_ior (X : Stand p l e R s m args below meth c T locs cells slots) (hx : p.tables.exec = Jvm.exec) (hby : c.code = bytes) {x y : Int32} (hd : decode bytes pc = .ok (.ior, 1))  (hp : pc + 1 = pc')
    (k : own_Got p e below P T (mkF m pc' ls (.int (x ||| y) :: st))) : own_Got p e below P T (mkF m pc ls (.int y :: .int x :: st)) := by
  subst hp; exact own_go (fun _ q => XS.ior X.here hx rfl (hb hby hd) rfl q) k
theorem g_ixor (X : Stand p l e R s m args below meth c T locs cells slots) (hx : p.tables.exec = Jvm.exec) (hby : c.code = bytes) {x y : Int32} (hd : decode bytes pc = .ok (.ixor, 1))  (hp : pc + 1 = pc')
    (k : own_Got p e below P T (mkF m pc' ls (.int (x ^^^ y) :: st))) : own_Got p e below P T (mkF m pc ls (.int y :: .int x :: st)) := by
  subst hp; exact own_go (fun _ q => XS.ixor X.here hx rfl (hb hby hd) rfl q) k
theorem g_imul (X : Stand p l e R s m args below meth c T locs cells slots) (hx : p.tables.exec = Jvm.exec) (hby : c.code = bytes) {x y : Int32} (hd : decode bytes pc = .ok (.imul, 1))  (hp : pc + 1 = pc')
    (k : own_Got p e below P T (mkF m pc' ls (.int (x * y) :: st))) : own_Got p e below P T (mkF m pc ls (.int y :: .int x :: st)) := by
  subst hp; exact own_go (fun _ q => XS.imul X.here hx rfl (hb hby hd) rfl q) k
theorem g_ladd (X : Stand p l e R s m args below meth c T locs cells slots) (hx : p.tables.exec = Jvm.exec) (hby : c.code = bytes) {x y : Int64} (hd : decode bytes pc = .ok (.ladd, 1))  (hp : pc + 1 = pc')
    (k : own_Got p e below P T (mkF m pc' ls (.long (x + y) :: st))) : own_Got p e below P T (mkF m pc ls (.long y :: .long x :: st)) := by
  subst hp; exact own_go (fun _ q => XS.ladd X.here hx rfl (hb hby hd) rfl q) k
theorem g_lsub (X : Stand p l e R s m args below meth c T locs cells slots) (hx : p.tables.exec = Jvm.exec) (hby : c.code = bytes) {x y : Int64} (hd : decode bytes pc = .ok (.lsub, 1))  (hp : pc + 1 = pc')
    (k : own_Got p e below P T (mkF m pc' ls (.long (x - y) :: st))) : own_Got p e below P T (mkF m pc ls (.long y :: .long x :: st)) := by
  subst hp; exact own_go (fun _ q => XS.lsub X.here hx rfl (hb hby hd) rfl q) k
theorem g_land (X : Stand p l e R s m args below meth c T locs cells slots) (hx : p.tables.exec = Jvm.exec) (hby : c.code = bytes) {x y : Int64} (hd : decode bytes pc = .ok (.land, 1))  (hp : pc + 1 = pc')
    (k : own_Got p e below P T (mkF m pc' ls (.long (x &&& y) :: st))) : own_Got p e below P T (mkF m pc ls (.long y :: .long x :: st)) := by
  subst hp; exact own_go (fun _ q => XS.land X.here hx rfl (hb hby hd) rfl q) k
theorem g_lor (X : Stand p l e R s m args below meth c T locs cells slots) (hx : p.tables.exec = Jvm.exec) (hby : c.code = bytes) {x y : Int64} (hd : decode bytes pc = .ok (.lor, 1))  (hp : pc + 1 = pc')
    (k : own_Got p e below P T (mkF m pc' ls (.long (x ||| y) :: st))) : own_Got p e below P T (mkF m pc ls (.long y :: .long x :: st)) := by
  subst hp; exact own_go (fun _ q => XS.lor X.here hx rfl (hb hby hd) rfl q) k
theorem g_lxor (X : Stand p l e R s m args below meth c T locs cells slots) (hx : p.tables.exec = Jvm.exec) (hby : c.code = bytes) {x y : Int64} (hd : decode bytes pc = .ok (.lxor, 1))  (hp : pc + 1 = pc')
    (k : own_Got p e below P T (mkF m pc' ls (.long (x ^^^ y) :: st))) : own_Got p e below P T (mkF m pc ls (.long y :: .long x :: st)) := by
  subst hp; exact own_go (fun _ q => XS.lxor X.here hx rfl (hb hby hd) rfl q) k
theorem g_lmul (X : Stand p l e R s m args below meth c T locs cells slots) (hx : p.tables.exec = Jvm.exec) (hby : c.code = bytes) {x y : Int64} (hd : decode bytes pc = .ok (.lmul, 1))  (hp : pc + 1 = pc')
    (k : own_Got p e below P T (mkF m pc' ls (.long (x * y) :: st))) : own_Got p e below P T (mkF m pc ls (.long y :: .long x :: st)) := by
  subst hp; exact own_go (fun _ q => XS.lmul X.here hx rfl (hb hby hd) rfl q) k
theorem g_idiv (X : Stand p l e R s m args below meth c T locs cells slots) (hx : p.tables.exec = Jvm.exec) (hby : c.code = bytes) {x y : Int32} (hd : decode bytes pc = .ok (.idiv, 1)) (hy : y ≠ 0) (hp : pc + 1 = pc')
    (k : own_Got p e below P T (mkF m pc' ls (.int (x / y) :: st))) : own_Got p e below P T (mkF m pc ls (.int y :: .int x :: st)) := by
  subst hp; exact own_go (fun _ q => XS.idiv X.here hx rfl (hb hby hd) rfl hy q) k
theorem g_irem (X : Stand p l e R s m args below meth c T locs cells slots) (hx : p.tables.exec = Jvm.exec) (hby : c.code = bytes) {x y : Int32} (hd : decode bytes pc = .ok (.irem, 1)) (hy : y ≠ 0) (hp : pc + 1 = pc')
    (k : own_Got p e below P T (mkF m pc' ls (.int (x % y) :: st))) : own_Got p e below P T (mkF m pc ls (.int y :: .int x :: st)) := by
  subst hp; exact own_go (fun _ q => iremM X hx rfl (hb hby hd) rfl hy q) k
theorem g_ishl (X : Stand p l e R s m args below meth c T locs cells slots) (hx : p.tables.exec = Jvm.exec) (hby : c.code = bytes) {x y : Int32} (hd : decode bytes pc = .ok (.ishl, 1))  (hp : pc + 1 = pc')
    (k : own_Got p e below P T (mkF m pc' ls (.int (x <<< (y &&& 31)) :: st))) : own_Got p e below P T (mkF m pc ls (.int y :: .int x :: st)) := by
  subst hp; exact own_go (fun _ q => XS.ishl X.here hx rfl (hb hby hd) rfl q) k
theorem g_ishr (X : Stand p l e R s m args below meth c T locs cells slots) (hx : p.tables.exec = Jvm.exec) (hby : c.code = bytes) {x y : Int32} (hd : decode bytes pc = .ok (.ishr, 1))  (hp : pc + 1 = pc')
    (k : own_Got p e below P T (mkF m pc' ls (.int (x >>> (y &&& 31)) :: st))) : own_Got p e below P T (mkF m pc ls (.int y :: .int x :: st)) := by
  subst hp; exact own_go (fun _ q => XS.ishr X.here hx rfl (hb hby hd) rfl q) k
theorem g_iushr (X : Stand p l e R s m args below meth c T locs cells slots) (hx : p.tables.exec = Jvm.exec) (hby : c.code = bytes) {x y : Int32} (hd : decode bytes pc = .ok (.iushr, 1))  (hp : pc + 1 = pc')
    (k : own_Got p e below P T (mkF m pc' ls (.int ((x.toUInt32 >>> (y &&& 31).toUInt32).toInt32) :: st))) : own_Got p e below P T (mkF m pc ls (.int y :: .int x :: st)) := by
  subst hp; exact own_go (fun _ q => XS.iushr X.here hx rfl (hb hby hd) rfl q) k
theorem g_ineg (X : Stand p l e R s m args below meth c T locs cells slots) (hx : p.tables.exec = Jvm.exec) (hby : c.code = bytes) {x : Int32} (hd : decode bytes pc = .ok (.ineg, 1))  (hp : pc + 1 = pc')
    (k : own_Got p e below P T (mkF m pc' ls (.int (-x) :: st))) : own_Got p e below P T (mkF m pc ls (.int x :: st)) := by
  subst hp; exact own_go (fun _ q => XS.ineg X.here hx rfl (hb hby hd) rfl q) k
theorem g_i2b (X : Stand p l e R s m args below meth c T locs cells slots) (hx : p.tables.exec = Jvm.exec) (hby : c.code = bytes) {x : Int32} (hd : decode bytes pc = .ok (.i2b, 1))  (hp : pc + 1 = pc')
    (k : own_Got p e below P T (mkF m pc' ls (.int x.toInt8.toInt32 :: st))) : own_Got p e below P T (mkF m pc ls (.int x :: st)) := by
  subst hp; exact own_go (fun _ q => XS.i2b X.here hx rfl (hb hby hd) rfl q) k
theorem g_i2s (X : Stand p l e R s m args below meth c T locs cells slots) (hx : p.tables.exec = Jvm.exec) (hby : c.code = bytes) {x : Int32} (hd : decode bytes pc = .ok (.i2s, 1))  (hp : pc + 1 = pc')
    (k : own_Got p e below P T (mkF m pc' ls (.int x.toInt16.toInt32 :: st))) : own_Got p e below P T (mkF m pc ls (.int x :: st)) := by
  subst hp; exact own_go (fun _ q => XS.i2s X.here hx rfl (hb hby hd) rfl q) k
theorem g_i2c (X : Stand p l e R s m args below meth c T locs cells slots) (hx : p.tables.exec = Jvm.exec) (hby : c.code = bytes) {x : Int32} (hd : decode bytes pc = .ok (.i2c, 1))  (hp : pc + 1 = pc')
    (k : own_Got p e below P T (mkF m pc' ls (.int x.toUInt32.toUInt16.toUInt32.toInt32 :: st))) : own_Got p e below P T (mkF m pc ls (.int x :: st)) := by
  subst hp; exact own_go (fun _ q => XS.i2c X.here hx rfl (hb hby hd) rfl q) k
theorem g_i2l (X : Stand p l e R s m args below meth c T locs cells slots) (hx : p.tables.exec = Jvm.exec) (hby : c.code = bytes) {x : Int32} (hd : decode bytes pc = .ok (.i2l, 1))  (hp : pc + 1 = pc')
    (k : own_Got p e below P T (mkF m pc' ls (.long x.toInt64 :: st))) : own_Got p e below P T (mkF m pc ls (.int x :: st)) := by
  subst hp; exact own_go (fun _ q => XS.i2l X.here hx rfl (hb hby hd) rfl q) k
theorem g_lcmp (X : Stand p l e R s m args below meth c T locs cells slots) (hx : p.tables.exec = Jvm.exec) (hby : c.code = bytes) {x y : Int64} (hd : decode bytes pc = .ok (.lcmp, 1))  (hp : pc + 1 = pc')
    (k : own_Got p e below P T (mkF m pc' ls (.int (lcmpW x y) :: st))) : own_Got p e below P T (mkF m pc ls (.long y :: .long x :: st)) := by
  subst hp; exact own_go (fun _ q => XS.lcmp X.here hx rfl (hb hby hd) rfl q) k
theorem g_iinc (X : Stand p l e R s m args below meth c T locs cells slots) (hx : p.tables.exec = Jvm.exec) (hby : c.code = bytes) {k : Nat} {cst : Int} {x : Int32} (ls' : Array Slot) (hd : decode bytes pc = .ok (.iinc k cst, 3)) (hl : ls[k]? = some (.val (.int x))) (hl' : storeLocals ls k (.int (x + Int32.ofInt cst)) = some ls') (hp : pc + 3 = pc')
    (k : own_Got p e below P T (mkF m pc' ls' (st))) : own_Got p e below P T (mkF m pc ls (st)) := by
  subst hp; exact own_go (fun _ q => XS.iinc X.here hx rfl (hb hby hd) hl hl' q) k
theorem g_dup (X : Stand p l e R s m args below meth c T locs cells slots) (hx : p.tables.exec = Jvm.exec) (hby : c.code = bytes) {x : Value} (hd : decode bytes pc = .ok (.dup, 1)) (hc : x.category = 1) (hp : pc + 1 = pc')
    (k : own_Got p e below P T (mkF m pc' ls (x :: x :: st))) : own_Got p e below P T (mkF m pc ls (x :: st)) := by
  subst hp; exact own_go (fun _ q => XS.dup X.here hx rfl (hb hby hd) rfl hc q) k
theorem g_dupX1 (X : Stand p l e R s m args below meth c T locs cells slots) (hx : p.tables.exec = Jvm.exec) (hby : c.code = bytes) {x y : Value} (hd : decode bytes pc = .ok (.dup_x1, 1)) (hc : x.category = 1) (hc2 : y.category = 1) (hp : pc + 1 = pc')
    (k : own_Got p e below P T (mkF m pc' ls (x :: y :: x :: st))) : own_Got p e below P T (mkF m pc ls (x :: y :: st)) := by
  subst hp; exact own_go (fun _ q => XS.dupX1 X.here hx rfl (hb hby hd) rfl hc hc2 q) k
theorem g_pop (X : Stand p l e R s m args below meth c T locs cells slots) (hx : p.tables.exec = Jvm.exec) (hby : c.code = bytes) {x : Value} (hd : decode bytes pc = .ok (.pop, 1)) (hc : x.category = 1) (hp : pc + 1 = pc')
    (k : own_Got p e below P T (mkF m pc' ls (st))) : own_Got p e below P T (mkF m pc ls (x :: st)) := by
  subst hp; exact own_go (fun _ q => XS.pop X.here hx rfl (hb hby hd) rfl hc q) k
theorem g_dup2 (X : Stand p l e R s m args below meth c T locs cells slots) (hx : p.tables.exec = Jvm.exec) (hby : c.code = bytes) {x y : Value} (hd : decode bytes pc = .ok (.dup2, 1)) (hc : x.category = 1) (hc2 : y.category = 1) (hp : pc + 1 = pc')
    (k : own_Got p e below P T (mkF m pc' ls (x :: y :: x :: y :: st))) : own_Got p e below P T (mkF m pc ls (x :: y :: st)) := by
  subst hp; exact own_go (fun _ q => XT.dup2 X.here hx rfl (hb hby hd) rfl hc hc2 q) k
theorem g_goto (X : Stand p l e R s m args below meth c T locs cells slots) (hx : p.tables.exec = Jvm.exec) (hby : c.code = bytes) {o : Int} (hd : decode bytes pc = .ok (.goto o, 3))  (ho : 0 ≤ (pc : Int) + o) (hp : ((pc : Int) + o).toNat = pc')
    (k : own_Got p e below P T (mkF m pc' ls (st))) : own_Got p e below P T (mkF m pc ls (st)) := by
  exact own_go (fun _ q => XS.goto X.here hx rfl rfl (hb hby hd) ho hp q) k
theorem g_ifT (X : Stand p l e R s m args below meth c T locs cells slots) (hx : p.tables.exec = Jvm.exec) (hby : c.code = bytes) {cd : ClassFile.Cond} {x : Int32} {o : Int} (hd : decode bytes pc = .ok (.ifCond cd o, 3)) (hc : ifCond.holds cd x = true) (ho : 0 ≤ (pc : Int) + o) (hp : ((pc : Int) + o).toNat = pc')
    (k : own_Got p e below P T (mkF m pc' ls (st))) : own_Got p e below P T (mkF m pc ls (.int x :: st)) := by
  exact own_go (fun _ q => XS.ifYes X.here hx rfl rfl (hb hby hd) rfl hc ho hp q) k
theorem g_icT (X : Stand p l e R s m args below meth c T locs cells slots) (hx : p.tables.exec = Jvm.exec) (hby : c.code = bytes) {cd : ClassFile.Cond} {x y : Int32} {o : Int} (hd : decode bytes pc = .ok (.if_icmp cd o, 3)) (hc : if_icmp.holds cd x y = true) (ho : 0 ≤ (pc : Int) + o) (hp : ((pc : Int) + o).toNat = pc')
    (k : own_Got p e below P T (mkF m pc' ls (st))) : own_Got p e below P T (mkF m pc ls (.int y :: .int x :: st)) := by
  exact own_go (fun _ q => XS.icmpYes X.here hx rfl rfl (hb hby hd) rfl hc ho hp q) k
theorem g_inT (X : Stand p l e R s m args below meth c T locs cells slots) (hx : p.tables.exec = Jvm.exec) (hby : c.code = bytes) {o : Int} (hd : decode bytes pc = .ok (.ifnull o, 3))  (ho : 0 ≤ (pc : Int) + o) (hp : ((pc : Int) + o).toNat = pc')
    (k : own_Got p e below P T (mkF m pc' ls (st))) : own_Got p e below P T (mkF m pc ls (.null :: st)) := by
  exact own_go (fun _ q => XS.ifnullYes X.here hx rfl rfl (hb hby hd) rfl ho hp q) k
theorem g_innT (X : Stand p l e R s m args below meth c T locs cells slots) (hx : p.tables.exec = Jvm.exec) (hby : c.code = bytes) {b : Addr} {o : Int} (hd : decode bytes pc = .ok (.ifnonnull o, 3))  (ho : 0 ≤ (pc : Int) + o) (hp : ((pc : Int) + o).toNat = pc')
    (k : own_Got p e below P T (mkF m pc' ls (st))) : own_Got p e below P T (mkF m pc ls (.ref b :: st)) := by
  exact own_go (fun _ q => XS.ifnonnullYes X.here hx rfl rfl (hb hby hd) rfl ho hp q) k
theorem g_ifF (X : Stand p l e R s m args below meth c T locs cells slots) (hx : p.tables.exec = Jvm.exec) (hby : c.code = bytes) {cd : ClassFile.Cond} {o : Int} {x : Int32} (hd : decode bytes pc = .ok (.ifCond cd o, 3)) (hc : ifCond.holds cd x = false) (hp : pc + 3 = pc')
    (k : own_Got p e below P T (mkF m pc' ls (st))) : own_Got p e below P T (mkF m pc ls (.int x :: st)) := by
  subst hp; exact own_go (fun _ q => XS.ifNo X.here hx rfl (hb hby hd) rfl hc q) k
theorem g_icF (X : Stand p l e R s m args below meth c T locs cells slots) (hx : p.tables.exec = Jvm.exec) (hby : c.code = bytes) {cd : ClassFile.Cond} {o : Int} {x y : Int32} (hd : decode bytes pc = .ok (.if_icmp cd o, 3)) (hc : if_icmp.holds cd x y = false) (hp : pc + 3 = pc')
    (k : own_Got p e below P T (mkF m pc' ls (st))) : own_Got p e below P T (mkF m pc ls (.int y :: .int x :: st)) := by
  subst hp; exact own_go (fun _ q => XS.icmpNo X.here hx rfl (hb hby hd) rfl hc q) k
theorem g_inF (X : Stand p l e R s m args below meth c T locs cells slots) (hx : p.tables.exec = Jvm.exec) (hby : c.code = bytes) {o : Int} {b : Addr} (hd : decode bytes pc = .ok (.ifnull o, 3))  (hp : pc + 3 = pc')
    (k : own_Got p e below P T (mkF m pc' ls (st))) : own_Got p e below P T (mkF m pc ls (.ref b :: st)) := by
  subst hp; exact own_go (fun _ q => XS.ifnullNo X.here hx rfl (hb hby hd) rfl q) k
theorem g_innF (X : Stand p l e R s m args below meth c T locs cells slots) (hx : p.tables.exec = Jvm.exec) (hby : c.code = bytes) {o : Int} (hd : decode bytes pc = .ok (.ifnonnull o, 3))  (hp : pc + 3 = pc')
    (k : own_Got p e below P T (mkF m pc' ls (st))) : own_Got p e below P T (mkF m pc ls (.null :: st)) := by
  subst hp; exact own_go (fun _ q => XS.ifnonnullNo X.here hx rfl (hb hby hd) rfl q) k
theorem g_acmp (X : Stand p l e R s m args below meth c T locs cells slots) (hx : p.tables.exec = Jvm.exec) (hby : c.code = bytes) {cd : ACond} {x y : Value} {o : Int} (same : Bool) (hd : decode bytes pc = .ok (.if_acmp cd o, 3)) (h1 : x.isRef = true) (h2 : y.isRef = true) (hq : decide (x = y) = same) (ho : 0 ≤ (pc : Int) + o) (hp : pc' = if acV cd same = true then ((pc : Int) + o).toNat else pc + 3)
    (k : own_Got p e below P T (mkF m pc' ls st)) : own_Got p e below P T (mkF m pc ls (y :: x :: st)) :=
  own_go (fun _ q => Jvm.RoadKit.acmp X hx rfl h1 h2 rfl (hb hby hd) rfl hq ho hp q) k
theorem g_ldcI (X : Stand p l e R s m args below meth c T locs cells slots) (hx : p.tables.exec = Jvm.exec) (hby : c.code = bytes) (hZ : Z.Warmed39 s.vm) {own : String} {index : Nat} {v : Int32} (hown : s.vm.findClass own = some m.cls) (w : (Cond.constant own index v).before a0 Z = true) (hd : decode bytes pc = .ok (.ldc index, 2)) (hp : pc + 2 = pc')
    (k : own_Got p e below P T (mkF m pc' ls (.int v :: st))) : own_Got p e below P T (mkF m pc ls st) := by
  subst hp; exact own_go (X.ldcInt hx hown (mvT hZ w) rfl (hb hby hd)) k
theorem g_ldc2D (X : Stand p l e R s m args below meth c T locs cells slots) (hx : p.tables.exec = Jvm.exec) (hby : c.code = bytes) (hZ : Z.Warmed39 s.vm) {own : String} {index : Nat} {v : UInt64} (hown : s.vm.findClass own = some m.cls) (w : (Cond.constantDouble own index v).before a0 Z = true) (hd : decode bytes pc = .ok (.ldc2_w index, 3)) (hp : pc + 3 = pc')
    (k : own_Got p e below P T (mkF m pc' ls (.double v :: st))) : own_Got p e below P T (mkF m pc ls st) := by
  subst hp; exact own_go (X.ldc2DoubleC hx hown (mvT hZ w) rfl (hb hby hd)) k
theorem g_alen (X : Stand p l e R s m args below meth c T locs cells slots) (hx : p.tables.exec = Jvm.exec) (hby : c.code = bytes) (hZ : Z.Warmed39 s.vm) (eT : T.heap = h) {a : Addr} {kk : ClassId} {ty : FieldType} {n : Int32} {vs : List Value} {d : Value} (F : Arv Z h a kk ty n vs d) (hd : decode bytes pc = .ok (.arraylength, 1)) (hp : pc + 1 = pc')
    (k : own_Got p e below P T (mkF m pc' ls (.int n :: st))) : own_Got p e below P T (mkF m pc ls (.ref a :: st)) := by
  subst hp
  obtain ⟨cl, Ar, -, S, N, -, -⟩ := F
  refine own_go (fun t q => X.arraylength hx (by rw [eT]; exact Ar.1) (State.isArrayOf_alike hZ.alike Ar.2.1) (g := mkF m pc ls (.ref a :: st)) rfl rfl (hb hby hd) t q) ?_
  rw [len_of S N]; exact k
theorem g_iaload (X : Stand p l e R s m args below meth c T locs cells slots) (hx : p.tables.exec = Jvm.exec) (hby : c.code = bytes) (hZ : Z.Warmed39 s.vm) (eT : T.heap = h) {a : Addr} {kk : ClassId} {n : Int32} {vs : List Value} {d v : Value} {j : Int32} (F : Arv Z h a kk .int n vs d) (hj : ¬ j < 0 ∧ j < n) (hv : vs.getD j.toNatClampNeg d = v) (hd : decode bytes pc = .ok (.iaload, 1)) (hp : pc + 1 = pc')
    (k : own_Got p e below P T (mkF m pc' ls (v :: st))) : own_Got p e below P T (mkF m pc ls (.int j :: .ref a :: st)) := by
  subst hp
  obtain ⟨cl, Ar, -, S, N, H, -⟩ := F
  exact own_go (fun t q => X.iaload hx (by rw [eT]; exact Ar.1) (State.isArrayOf_alike hZ.alike Ar.2.1) Ar.2.2 (inb_of S hj) (H.at (inb_of S hj) hv) (g := mkF m pc ls (.int j :: .ref a :: st)) rfl rfl (hb hby hd) t q) k
theorem g_caload (X : Stand p l e R s m args below meth c T locs cells slots) (hx : p.tables.exec = Jvm.exec) (hby : c.code = bytes) (hZ : Z.Warmed39 s.vm) (eT : T.heap = h) {a : Addr} {kk : ClassId} {n : Int32} {vs : List Value} {d v : Value} {j : Int32} (F : Arv Z h a kk .char n vs d) (hj : ¬ j < 0 ∧ j < n) (hv : vs.getD j.toNatClampNeg d = v) (hd : decode bytes pc = .ok (.caload, 1)) (hp : pc + 1 = pc')
    (k : own_Got p e below P T (mkF m pc' ls (v :: st))) : own_Got p e below P T (mkF m pc ls (.int j :: .ref a :: st)) := by
  subst hp
  obtain ⟨cl, Ar, -, S, N, H, -⟩ := F
  exact own_go (fun t q => X.caload hx (by rw [eT]; exact Ar.1) (State.isArrayOf_alike hZ.alike Ar.2.1) Ar.2.2 (inb_of S hj) (H.at (inb_of S hj) hv) (g := mkF m pc ls (.int j :: .ref a :: st)) rfl rfl (hb hby hd) t q) k
theorem g_laload (X : Stand p l e R s m args below meth c T locs cells slots) (hx : p.tables.exec = Jvm.exec) (hby : c.code = bytes) (hZ : Z.Warmed39 s.vm) (eT : T.heap = h) {a : Addr} {kk : ClassId} {n : Int32} {vs : List Value} {d v : Value} {j : Int32} (F : Arv Z h a kk .long n vs d) (hj : ¬ j < 0 ∧ j < n) (hv : vs.getD j.toNatClampNeg d = v) (hd : decode bytes pc = .ok (.laload, 1)) (hp : pc + 1 = pc')
    (k : own_Got p e below P T (mkF m pc' ls (v :: st))) : own_Got p e below P T (mkF m pc ls (.int j :: .ref a :: st)) := by
  subst hp
  obtain ⟨cl, Ar, -, S, N, H, -⟩ := F
  exact own_go (fun t q => X.laload hx (by rw [eT]; exact Ar.1) (State.isArrayOf_alike hZ.alike Ar.2.1) Ar.2.2 (inb_of S hj) (H.at (inb_of S hj) hv) (g := mkF m pc ls (.int j :: .ref a :: st)) rfl rfl (hb hby hd) t q) k
theorem g_baload (X : Stand p l e R s m args below meth c T locs cells slots) (hx : p.tables.exec = Jvm.exec) (hby : c.code = bytes) (hZ : Z.Warmed39 s.vm) (eT : T.heap = h) {a : Addr} {kk : ClassId} {n : Int32} {vs : List Value} {d v : Value} {j : Int32} (F : Arv Z h a kk .byte n vs d) (hj : ¬ j < 0 ∧ j < n) (hv : vs.getD j.toNatClampNeg d = v) (hd : decode bytes pc = .ok (.baload, 1)) (hp : pc + 1 = pc')
    (k : own_Got p e below P T (mkF m pc' ls (v :: st))) : own_Got p e below P T (mkF m pc ls (.int j :: .ref a :: st)) := by
  subst hp
  obtain ⟨cl, Ar, -, S, N, H, -⟩ := F
  exact own_go (fun t q => X.baloadBytes hx (by rw [eT]; exact Ar.1) (State.isArrayOf_alike hZ.alike Ar.2.1) Ar.2.2 (inb_of S hj) (H.at (inb_of S hj) hv) (g := mkF m pc ls (.int j :: .ref a :: st)) rfl rfl (hb hby hd) t q) k
theorem g_daload (X : Stand p l e R s m args below meth c T locs cells slots) (hx : p.tables.exec = Jvm.exec) (hby : c.code = bytes) (hZ : Z.Warmed39 s.vm) (eT : T.heap = h) {a : Addr} {kk : ClassId} {n : Int32} {vs : List Value} {d v : Value} {j : Int32} (F : Arv Z h a kk .double n vs d) (hj : ¬ j < 0 ∧ j < n) (hv : vs.getD j.toNatClampNeg d = v) (hd : decode bytes pc = .ok (.daload, 1)) (hp : pc + 1 = pc')
    (k : own_Got p e below P T (mkF m pc' ls (v :: st))) : own_Got p e below P T (mkF m pc ls (.int j :: .ref a :: st)) := by
  subst hp
  obtain ⟨cl, Ar, -, S, N, H, -⟩ := F
  exact own_go (fun t q => X.daload hx (by rw [eT]; exact Ar.1) (State.isArrayOf_alike hZ.alike Ar.2.1) Ar.2.2 (inb_of S hj) (H.at (inb_of S hj) hv) (g := mkF m pc ls (.int j :: .ref a :: st)) rfl rfl (hb hby hd) t q) k
theorem g_aaload (X : Stand p l e R s m args below meth c T locs cells slots) (hx : p.tables.exec = Jvm.exec) (hby : c.code = bytes) (hZ : Z.Warmed39 s.vm) (eT : T.heap = h) {a : Addr} {kk : ClassId} {ty : FieldType} {n : Int32} {vs : List Value} {d v : Value} {j : Int32} (F : Arv Z h a kk ty n vs d) (ht : ty.isReference = true) (hj : ¬ j < 0 ∧ j < n) (hv : vs.getD j.toNatClampNeg d = v) (hd : decode bytes pc = .ok (.aaload, 1)) (hp : pc + 1 = pc')
    (k : own_Got p e below P T (mkF m pc' ls (v :: st))) : own_Got p e below P T (mkF m pc ls (.int j :: .ref a :: st)) := by
  subst hp
  obtain ⟨cl, Ar, -, S, N, H, -⟩ := F
  exact own_go (fun t q => X.aaload hx (by rw [eT]; exact Ar.1) (State.isArrayOf_alike hZ.alike Ar.2.1) ht Ar.2.2 (inb_of S hj) (H.at (inb_of S hj) hv) (g := mkF m pc ls (.int j :: .ref a :: st)) rfl rfl (hb hby hd) t q) k
theorem a_iastore (X : Stand p l e R s m args below meth c T locs cells slots) (hx : p.tables.exec = Jvm.exec) (hby : c.code = bytes) (hZ : Z.Warmed39 s.vm) (eT : T.heap = h) {a : Addr} {kk : ClassId} {n : Int32} {vs : List Value} {d : Value} {j : Int32} (x : Int32) (i : Nat) (F : Arv Z h a kk .int n vs d) (hj : ¬ j < 0 ∧ j < n) (hi : j.toNatClampNeg = i) (hl : i < vs.length) (hd : decode bytes pc = .ok (.iastore, 1)) :
    ∃ T' h', Stand p l e R s m args below meth c T' (locs ++ [⟨a, j.toNatClampNeg⟩]) cells slots ∧ T'.heap = h' ∧ Wr h h' a j.toNatClampNeg (.int x) ∧ Arv Z h' a kk .int n (vs.set i (.int x)) d ∧ ∀ t, Steps p.tables e below (T'.setTop (mkF m (pc + 1) ls st)) t → Steps p.tables e below (T.setTop (mkF m pc ls (.int x :: .int j :: .ref a :: st))) t := by
  obtain ⟨cl, Ar, q1, S, N, H, Gf⟩ := F
  obtain ⟨T', h', X', e', W, k⟩ := stI X hx hZ eT Ar (j := j) (inb_of S hj) (g := mkF m pc ls (.int x :: .int j :: .ref a :: st)) rfl rfl (hb hby hd)
  exact ⟨T', h', X', e', W, Arv.set Ar q1 S N H Gf (rfl) W i hi hl, k⟩
theorem a_castore (X : Stand p l e R s m args below meth c T locs cells slots) (hx : p.tables.exec = Jvm.exec) (hby : c.code = bytes) (hZ : Z.Warmed39 s.vm) (eT : T.heap = h) {a : Addr} {kk : ClassId} {n : Int32} {vs : List Value} {d : Value} {j : Int32} (x : Int32) (i : Nat) (F : Arv Z h a kk .char n vs d) (hj : ¬ j < 0 ∧ j < n) (hi : j.toNatClampNeg = i) (hl : i < vs.length) (hd : decode bytes pc = .ok (.castore, 1)) :
    ∃ T' h', Stand p l e R s m args below meth c T' (locs ++ [⟨a, j.toNatClampNeg⟩]) cells slots ∧ T'.heap = h' ∧ Wr h h' a j.toNatClampNeg (.int (nar .char x)) ∧ Arv Z h' a kk .char n (vs.set i (.int (nar .char x))) d ∧ ∀ t, Steps p.tables e below (T'.setTop (mkF m (pc + 1) ls st)) t → Steps p.tables e below (T.setTop (mkF m pc ls (.int x :: .int j :: .ref a :: st))) t := by
  obtain ⟨cl, Ar, q1, S, N, H, Gf⟩ := F
  obtain ⟨T', h', X', e', W, k⟩ := stC X hx hZ eT Ar (j := j) (inb_of S hj) (g := mkF m pc ls (.int x :: .int j :: .ref a :: st)) rfl rfl (hb hby hd)
  exact ⟨T', h', X', e', W, Arv.set Ar q1 S N H Gf (fits_nar_char _) W i hi hl, k⟩
theorem a_bastore (X : Stand p l e R s m args below meth c T locs cells slots) (hx : p.tables.exec = Jvm.exec) (hby : c.code = bytes) (hZ : Z.Warmed39 s.vm) (eT : T.heap = h) {a : Addr} {kk : ClassId} {n : Int32} {vs : List Value} {d : Value} {j : Int32} (x : Int32) (i : Nat) (F : Arv Z h a kk .byte n vs d) (hj : ¬ j < 0 ∧ j < n) (hi : j.toNatClampNeg = i) (hl : i < vs.length) (hd : decode bytes pc = .ok (.bastore, 1)) :
    ∃ T' h', Stand p l e R s m args below meth c T' (locs ++ [⟨a, j.toNatClampNeg⟩]) cells slots ∧ T'.heap = h' ∧ Wr h h' a j.toNatClampNeg (.int (nar .byte x)) ∧ Arv Z h' a kk .byte n (vs.set i (.int (nar .byte x))) d ∧ ∀ t, Steps p.tables e below (T'.setTop (mkF m (pc + 1) ls st)) t → Steps p.tables e below (T.setTop (mkF m pc ls (.int x :: .int j :: .ref a :: st))) t := by
  obtain ⟨cl, Ar, q1, S, N, H, Gf⟩ := F
  obtain ⟨T', h', X', e', W, k⟩ := stB X hx hZ eT Ar (j := j) (inb_of S hj) (g := mkF m pc ls (.int x :: .int j :: .ref a :: st)) rfl rfl (hb hby hd)
  exact ⟨T', h', X', e', W, Arv.set Ar q1 S N H Gf (fits_nar_byte _) W i hi hl, k⟩
theorem a_lastore (X : Stand p l e R s m args below meth c T locs cells slots) (hx : p.tables.exec = Jvm.exec) (hby : c.code = bytes) (hZ : Z.Warmed39 s.vm) (eT : T.heap = h) {a : Addr} {kk : ClassId} {n : Int32} {vs : List Value} {d : Value} {j : Int32} (x : Int64) (i : Nat) (F : Arv Z h a kk .long n vs d) (hj : ¬ j < 0 ∧ j < n) (hi : j.toNatClampNeg = i) (hl : i < vs.length) (hd : decode bytes pc = .ok (.lastore, 1)) :
    ∃ T' h', Stand p l e R s m args below meth c T' (locs ++ [⟨a, j.toNatClampNeg⟩]) cells slots ∧ T'.heap = h' ∧ Wr h h' a j.toNatClampNeg (.long x) ∧ Arv Z h' a kk .long n (vs.set i (.long x)) d ∧ ∀ t, Steps p.tables e below (T'.setTop (mkF m (pc + 1) ls st)) t → Steps p.tables e below (T.setTop (mkF m pc ls (.long x :: .int j :: .ref a :: st))) t := by
  obtain ⟨cl, Ar, q1, S, N, H, Gf⟩ := F
  obtain ⟨T', h', X', e', W, k⟩ := stJ X hx hZ eT Ar (j := j) (inb_of S hj) (g := mkF m pc ls (.long x :: .int j :: .ref a :: st)) rfl rfl (hb hby hd)
  exact ⟨T', h', X', e', W, Arv.set Ar q1 S N H Gf (rfl) W i hi hl, k⟩
theorem a_dastore (X : Stand p l e R s m args below meth c T locs cells slots) (hx : p.tables.exec = Jvm.exec) (hby : c.code = bytes) (hZ : Z.Warmed39 s.vm) (eT : T.heap = h) {a : Addr} {kk : ClassId} {n : Int32} {vs : List Value} {d : Value} {j : Int32} (x : UInt64) (i : Nat) (F : Arv Z h a kk .double n vs d) (hj : ¬ j < 0 ∧ j < n) (hi : j.toNatClampNeg = i) (hl : i < vs.length) (hd : decode bytes pc = .ok (.dastore, 1)) :
    ∃ T' h', Stand p l e R s m args below meth c T' (locs ++ [⟨a, j.toNatClampNeg⟩]) cells slots ∧ T'.heap = h' ∧ Wr h h' a j.toNatClampNeg (.double x) ∧ Arv Z h' a kk .double n (vs.set i (.double x)) d ∧ ∀ t, Steps p.tables e below (T'.setTop (mkF m (pc + 1) ls st)) t → Steps p.tables e below (T.setTop (mkF m pc ls (.double x :: .int j :: .ref a :: st))) t := by
  obtain ⟨cl, Ar, q1, S, N, H, Gf⟩ := F
  obtain ⟨T', h', X', e', W, k⟩ := stD X hx hZ eT Ar (j := j) (inb_of S hj) (g := mkF m pc ls (.double x :: .int j :: .ref a :: st)) rfl rfl (hb hby hd)
  exact ⟨T', h', X', e', W, Arv.set Ar q1 S N H Gf (rfl) W i hi hl, k⟩
theorem a_aastore (X : Stand p l e R s m args below meth c T locs cells slots) (hx : p.tables.exec = Jvm.exec) (hby : c.code = bytes) (hZ : Z.Warmed39 s.vm) (eT : T.heap = h) {a b : Addr} {kk : ClassId} {Cn : String} {n : Int32} {vs : List Value} {d : Value} {j : Int32} (i : Nat) (F : Arv Z h a kk (.object Cn) n vs d) (O : Ovr Z kk Cn) (I : Ins Z h b Cn true) (hj : ¬ j < 0 ∧ j < n) (hi : j.toNatClampNeg = i) (hl : i < vs.length) (hd : decode bytes pc = .ok (.aastore, 1)) :
    ∃ T' h', Stand p l e R s m args below meth c T' (locs ++ [⟨a, j.toNatClampNeg⟩]) cells slots ∧ T'.heap = h' ∧ Wr h h' a j.toNatClampNeg (.ref b) ∧ Arv Z h' a kk (.object Cn) n (vs.set i (.ref b)) d ∧ ∀ t, Steps p.tables e below (T'.setTop (mkF m (pc + 1) ls st)) t → Steps p.tables e below (T.setTop (mkF m pc ls (.ref b :: .int j :: .ref a :: st))) t := by
  obtain ⟨cl, Ar, q1, S, N, H, Gf⟩ := F
  obtain ⟨T', h', X', e', W, k⟩ := stR X hx hZ eT Ar (j := j) (inb_of S hj) rfl (Sto.ofV Ar q1 O I) (g := mkF m pc ls (.ref b :: .int j :: .ref a :: st)) rfl rfl (hb hby hd)
  exact ⟨T', h', X', e', W, Arv.set Ar q1 S N H Gf rfl W i hi hl, k⟩
theorem own_stakeep {C n d : String} {v : Value} {K : String} {a : Addr} (F : Sta Z h C n d v) (k : Keep h h' [a]) (E : Exa Z h a K) : Sta Z h' C n d v := by
  obtain ⟨cf, i, kk, f, st, cell, h1, h2, h3, h4, h5, h6, h7⟩ := F
  refine ⟨cf, i, kk, f, st, cell, h1, h2, h3, h4, k.2.1 _ _ h5 (fun q => ?_), h6, h7⟩
  obtain ⟨c2, k2, g1, -, -, g4, -⟩ := E
  cases List.mem_singleton.mp q
  cases h5.symm.trans g1
  rw [g4] at h6; cases h6
theorem own_stakeep0 {C n d : String} {v : Value} (F : Sta Z h C n d v) (k : Keep h h' []) : Sta Z h' C n d v := by
  obtain ⟨cf, i, kk, f, st, cell, h1, h2, h3, h4, h5, h6, h7⟩ := F
  exact ⟨cf, i, kk, f, st, cell, h1, h2, h3, h4, k.2.1 _ _ h5 nin0, h6, h7⟩
theorem own_eqI {t : Term} {first : State} {o : Option Outcome} {idx : List Nat} {z : Int32} (hq : (Cond.eq t (.int z)).value args first o s idx = some true) : t.eval args first o idx s = some (.int z) := by
  obtain ⟨x, y, hx, hy, kk, -⟩ := cmp_v (Or.inl hq)
  have hy' : y = .int z := Option.some.inj (hy.symm.trans rfl)
  subst hy'
  cases x with
  | int x => simp only [Cond.value, hx, hy] at hq; simp at hq; rw [hx, hq]
  | _ => simp [Kin, Value.isRef] at kk
theorem own_eqR {t u : Term} {first : State} {o : Option Outcome} {idx : List Nat} {b : Addr} (hq : (Cond.eq t u).value args first o s idx = some true) (hu : u.eval args first o idx s = some (.ref b)) : t.eval args first o idx s = some (.ref b) := by
  obtain ⟨x, y, hx, hy, kk, kk2⟩ := cmp_v (Or.inl hq)
  cases hu.symm.trans hy
  have hr : x.isRef = true := kk2.2
  have := gotT (eq_R hx hu hr rfl) hq
  rw [hx, this]
theorem g_i2d (X : Stand p l e R s m args below meth c T locs cells slots) (hx : p.tables.exec = Jvm.exec) (hby : c.code = bytes) {x : Int32} (hd : decode bytes pc = .ok (.i2d, 1))  (hp : pc + 1 = pc')
    (k : own_Got p e below P T (mkF m pc' ls (.double (FP.i2d x) :: st))) : own_Got p e below P T (mkF m pc ls (.int x :: st)) := by
  subst hp; exact own_go (fun _ q => XS.i2dS X.here hx rfl (hb hby hd) rfl rfl q) k
theorem g_dcmp (X : Stand p l e R s m args below meth c T locs cells slots) (hx : p.tables.exec = Jvm.exec) (hby : c.code = bytes) {o : CmpOp} {x y : UInt64} (hd : decode bytes pc = .ok (.dcmp o, 1))  (hp : pc + 1 = pc')
    (k : own_Got p e below P T (mkF m pc' ls (.int (cmpValue (FP.dcmp x y) o) :: st))) : own_Got p e below P T (mkF m pc ls (.double y :: .double x :: st)) := by
  subst hp; exact own_go (fun _ q => XS.dcmpS X.here hx rfl (hb hby hd) rfl rfl q) k
theorem g_dconst0 (X : Stand p l e R s m args below meth c T locs cells slots) (hx : p.tables.exec = Jvm.exec) (hby : c.code = bytes) (z : UInt64) (hd : decode bytes pc = .ok (.dconst 0, 1)) (hz : FP.dconst0 = z) (hp : pc + 1 = pc')
    (k : own_Got p e below P T (mkF m pc' ls (.double z :: st))) : own_Got p e below P T (mkF m pc ls (st)) := by
  subst hp; exact own_go (fun _ q => XS.dconst0 X.here hx rfl (hb hby hd) hz q) k
theorem g_dadd (X : Stand p l e R s m args below meth c T locs cells slots) (hx : p.tables.exec = Jvm.exec) (hby : c.code = bytes) {x y : UInt64} (hd : decode bytes pc = .ok (.dadd, 1)) (hn : Jvm.Free.Fl.NoNaN64 (FP.dadd x y)) (hp : pc + 1 = pc')
    (k : own_Got p e below P T (mkF m pc' ls (.double (FP.dadd x y) :: st))) : own_Got p e below P T (mkF m pc ls (.double y :: .double x :: st)) := by
  subst hp; exact own_go (fun _ q => XS.daddS X.here hx rfl (hb hby hd) rfl hn rfl q) k
theorem g_dsub (X : Stand p l e R s m args below meth c T locs cells slots) (hx : p.tables.exec = Jvm.exec) (hby : c.code = bytes) {x y : UInt64} (hd : decode bytes pc = .ok (.dsub, 1)) (hn : Jvm.Free.Fl.NoNaN64 (FP.dsub x y)) (hp : pc + 1 = pc')
    (k : own_Got p e below P T (mkF m pc' ls (.double (FP.dsub x y) :: st))) : own_Got p e below P T (mkF m pc ls (.double y :: .double x :: st)) := by
  subst hp; exact own_go (fun _ q => XS.dsubS X.here hx rfl (hb hby hd) rfl hn rfl q) k
theorem g_dmul (X : Stand p l e R s m args below meth c T locs cells slots) (hx : p.tables.exec = Jvm.exec) (hby : c.code = bytes) {x y : UInt64} (hd : decode bytes pc = .ok (.dmul, 1)) (hn : Jvm.Free.Fl.NoNaN64 (FP.dmul x y)) (hp : pc + 1 = pc')
    (k : own_Got p e below P T (mkF m pc' ls (.double (FP.dmul x y) :: st))) : own_Got p e below P T (mkF m pc ls (.double y :: .double x :: st)) := by
  subst hp; exact own_go (fun _ q => XS.dmulS X.here hx rfl (hb hby hd) rfl hn rfl q) k
theorem g_ddiv (X : Stand p l e R s m args below meth c T locs cells slots) (hx : p.tables.exec = Jvm.exec) (hby : c.code = bytes) {x y : UInt64} (hd : decode bytes pc = .ok (.ddiv, 1)) (hn : Jvm.Free.Fl.NoNaN64 (FP.ddiv x y)) (hp : pc + 1 = pc')
    (k : own_Got p e below P T (mkF m pc' ls (.double (FP.ddiv x y) :: st))) : own_Got p e below P T (mkF m pc ls (.double y :: .double x :: st)) := by
  subst hp; exact own_go (fun _ q => XS.ddivS X.here hx rfl (hb hby hd) rfl hn rfl q) k
theorem own_narR {t : FieldType} {w : Value} (ht : t.isReference = true) (hw : w.isRef = true) : narrow t w = w := by rcases ref_cases hw with rfl | ⟨a, rfl⟩ <;> cases t <;> first | rfl | (cases ht)
theorem own_fitR {t : FieldType} {w : Value} (ht : t.isReference = true) (hw : w.isRef = true) : fits t w = true := by rcases ref_cases hw with rfl | ⟨a, rfl⟩ <;> cases t <;> first | rfl | (cases ht)
theorem own_nb (x : Int32) : nar .byte (x.toInt8.toInt32) = x.toInt8.toInt32 := by
  show (x.toInt8.toInt32).toInt8.toInt32 = x.toInt8.toInt32
  simp
theorem own_nc (x : Int32) : nar .char (x.toUInt32.toUInt16.toUInt32.toInt32) = x.toUInt32.toUInt16.toUInt32.toInt32 := by
  show (x.toUInt32.toUInt16.toUInt32.toInt32).toUInt32.toUInt16.toUInt32.toInt32 = _
  have q : ∀ u : UInt16, u.toUInt32.toInt32.toUInt32.toUInt16 = u := fun u => by simp
  rw [q]
end OwnKit
theorem own_c255 (x : Int32) : ¬ ((255 : Int32) < ((x &&& (255 : Int32)).toUInt32.toUInt16.toUInt32.toInt32)) := by
  rw [i2c_mask]
  have h := c_and x 255 (by decide)
  rw [Int32.lt_iff_toInt_lt]
  omega

theorem d_cpI2_0 : decode jdk_52_method_21_code 0 = .ok (.iconst 0, 1) := by decide +kernel
theorem d_cpI2_1 : decode jdk_52_method_21_code 1 = .ok (.istore 5, 2) := by decide +kernel
theorem d_cpI2_3 : decode jdk_52_method_21_code 3 = .ok (.iload 5, 2) := by decide +kernel
theorem d_cpI2_5 : decode jdk_52_method_21_code 5 = .ok (.iload 4, 2) := by decide +kernel
theorem d_cpI2_7 : decode jdk_52_method_21_code 7 = .ok (.if_icmp .ge 37, 3) := by decide +kernel
theorem d_cpI2_10 : decode jdk_52_method_21_code 10 = .ok (.aload_n 0, 1) := by decide +kernel
theorem d_cpI2_11 : decode jdk_52_method_21_code 11 = .ok (.iload_n 1, 1) := by decide +kernel
theorem d_cpI2_12 : decode jdk_52_method_21_code 12 = .ok (.caload, 1) := by decide +kernel
theorem d_cpI2_13 : decode jdk_52_method_21_code 13 = .ok (.istore 6, 2) := by decide +kernel
theorem d_cpI2_15 : decode jdk_52_method_21_code 15 = .ok (.iload 6, 2) := by decide +kernel
theorem d_cpI2_17 : decode jdk_52_method_21_code 17 = .ok (.sipush 255, 3) := by decide +kernel
theorem d_cpI2_20 : decode jdk_52_method_21_code 20 = .ok (.if_icmp .le 6, 3) := by decide +kernel
theorem d_cpI2_26 : decode jdk_52_method_21_code 26 = .ok (.aload_n 2, 1) := by decide +kernel
theorem d_cpI2_27 : decode jdk_52_method_21_code 27 = .ok (.iload_n 3, 1) := by decide +kernel
theorem d_cpI2_28 : decode jdk_52_method_21_code 28 = .ok (.iload 6, 2) := by decide +kernel
theorem d_cpI2_30 : decode jdk_52_method_21_code 30 = .ok (.i2b, 1) := by decide +kernel
theorem d_cpI2_31 : decode jdk_52_method_21_code 31 = .ok (.bastore, 1) := by decide +kernel
theorem d_cpI2_32 : decode jdk_52_method_21_code 32 = .ok (.iinc 1 1, 3) := by decide +kernel
theorem d_cpI2_35 : decode jdk_52_method_21_code 35 = .ok (.iinc 3 1, 3) := by decide +kernel
theorem d_cpI2_38 : decode jdk_52_method_21_code 38 = .ok (.iinc 5 1, 3) := by decide +kernel
theorem d_cpI2_41 : decode jdk_52_method_21_code 41 = .ok (.goto (-38), 3) := by decide +kernel
theorem d_cpI2_44 : decode jdk_52_method_21_code 44 = .ok (.iload 4, 2) := by decide +kernel
theorem d_cpI2_46 : decode jdk_52_method_21_code 46 = .ok (.ireturn, 1) := by decide +kernel
theorem pn0 : plainName "java/lang/StringUTF16" = true := by first | (simp [plainName, overriddenIn]; done) | decide +kernel
theorem ef_cpI2 (m : MethodId) (a0 : Addr) (a2 : Addr) : entryFrame m #[(.ref a0), (.int (0 : Int32)), (.ref a2), (.int (0 : Int32)), (.int (2 : Int32))] 7 = mkF m 0 #[.val (.ref a0), .val (.int (0 : Int32)), .val (.ref a2), .val (.int (0 : Int32)), .val (.int (2 : Int32)), .unset, .unset] [] := by first | (simp [entryFrame, mkF, argsToLocals, Value.category]; done) | rfl
def Q_cpI2 (Z : State) (a0 : Addr) (a2 : Addr) (kc : ClassId) (c0 : Int32) (c1 : Int32) (kb : ClassId) (h0 : Heap) (n0 : Nat) (v : Option Value) (h : Heap) (L : List Loc) : Prop := v = some (.int (2 : Int32)) ∧ Fr n0 L ∧ Keep h0 h [a2] ∧ Exa Z h a2 "[B" ∧ Arv Z h a2 kb .byte (2 : Int32) [(.int (c0.toInt8.toInt32)), (.int (c1.toInt8.toInt32))] (.int (0 : Int32))
set_option maxRecDepth 65536 in
set_option maxHeartbeats 40000000 in
theorem rm_cpI2 (l : Launch) (Z : State) (aT : Array Value) (hw : ∀ d ∈ tables_1, d.before aT Z = true) (ws : List Jvm.Cond) (a0 : Addr) (a2 : Addr) (kc : ClassId) (c0 : Int32) (c1 : Int32) (kb : ClassId) (h0 : Heap) (n0 : Nat) (Z0 : n0 ≤ h0.size) (hp0 : Arv Z h0 a0 kc .char (2 : Int32) [(.int c0), (.int c1)] (.int (0 : Int32))) (hp1 : Exa Z h0 a2 "[B") (hp2 : Arv Z h0 a2 kb .byte (2 : Int32) [(.int (0 : Int32)), (.int (0 : Int32))] (.int (0 : Int32))) (hp3 : n0 ≤ a2) (hp4 : a0 ≠ a2) (hq0 : ¬ ((255 : Int32) < c0)) (hq1 : ¬ ((255 : Int32) < c1)) :
    MetFree l (⟨"java/lang/StringUTF16", "compress", "([CI[BII)I"⟩ : MethodName) (head1 (Jvm.Cond.code (⟨"java/lang/StringUTF16", "compress", "([CI[BII)I"⟩ : MethodName) jdk_52_method_21_code 7 (some .int) :: ws) ({ frames := 0, cells := 0, slots := 0, locals := 0 } : Room)) (fun a U => a = #[(.ref a0), (.int (0 : Int32)), (.ref a2), (.int (0 : Int32)), (.int (2 : Int32))] ∧ Z.Warmed39 U.vm ∧ U.heap = h0) (fun _ _ _ _ _ => True) (fun _ U o U' => ∃ v L, o = .returned v ∧ Q_cpI2 Z a0 a2 kc c0 c1 kb h0 n0 v U'.heap L ∧ FrameEnd U o U' L ({ frames := 0, cells := 0, slots := 0, locals := 0 } : Room).cells ({ frames := 0, cells := 0, slots := 0, locals := 0 } : Room).slots) := by
  refine MetFree.of_bodySF (plainFor_of_name pn0) hisR ?_
  intro p e s m args below meth c s₁ Bd hml0 hP hK
  obtain ⟨rfl, hZ, hh⟩ := hP
  have hx := Bd.exec
  have hby := Bd.bytes
  have hml : c.maxLocals = 7 := hml0
  have hown : s.vm.findClass "java/lang/StringUTF16" = some m.cls := findClass_of_methodNamed Bd.named
  have hnm := (name_of_methodNamed Bd.named Bd.method).1
  have hlk := Bd.notSynchronized
  have hrt := Bd.returns
  have X0 : Stand p l e ({ frames := 0, cells := 0, slots := 0, locals := 0 } : Room) s m #[(.ref a0), (.int (0 : Int32)), (.ref a2), (.int (0 : Int32)), (.int (2 : Int32))] below meth c s₁ [] 0 0 := Stand.of_body Bd
  have e0 : s₁.heap = h0 := by rw [← hh, Bd.state]; rfl
  have N0 := Fr.nil n0
  refine own_cast (P := own_End s (Q_cpI2 Z a0 a2 kc c0 c1 kb h0 n0) ({ frames := 0, cells := 0, slots := 0, locals := 0 } : Room).cells ({ frames := 0, cells := 0, slots := 0, locals := 0 } : Room).slots) (ef_cpI2 m a0 a2) ?_
  refine g_iconst X0 hx hby (0 : Int32) d_cpI2_0 (by decide) (rfl : 0 + 1 = 1) ?_
  refine g_istore X0 hx hby #[.val (.ref a0), .val (.int (0 : Int32)), .val (.ref a2), .val (.int (0 : Int32)), .val (.int (2 : Int32)), .val (.int (0 : Int32)), .unset] d_cpI2_1 rfl (rfl : 1 + 2 = 3) ?_
  refine g_iload X0 hx hby d_cpI2_3 rfl (rfl : 3 + 2 = 5) ?_
  refine g_iload X0 hx hby d_cpI2_5 rfl (rfl : 5 + 2 = 7) ?_
  refine g_icF X0 hx hby d_cpI2_7 (tlt (by decide : (0 : Int32) < (2 : Int32))).2.1 (rfl : 7 + 3 = 10) ?_
  refine g_aloadN X0 hx hby d_cpI2_10 rfl rfl (rfl : 10 + 1 = 11) ?_
  refine g_iloadN X0 hx hby d_cpI2_11 rfl (rfl : 11 + 1 = 12) ?_
  refine g_caload X0 hx hby hZ e0 (v := (.int c0)) hp0 ⟨by decide, by decide⟩ rfl d_cpI2_12 (rfl : 12 + 1 = 13) ?_
  refine g_istore X0 hx hby #[.val (.ref a0), .val (.int (0 : Int32)), .val (.ref a2), .val (.int (0 : Int32)), .val (.int (2 : Int32)), .val (.int (0 : Int32)), .val (.int c0)] d_cpI2_13 rfl (rfl : 13 + 2 = 15) ?_
  refine g_iload X0 hx hby d_cpI2_15 rfl (rfl : 15 + 2 = 17) ?_
  refine g_sipush X0 hx hby (255 : Int32) d_cpI2_17 (by decide) (rfl : 17 + 3 = 20) ?_
  refine g_icT X0 hx hby d_cpI2_20 (flt hq0).2.2.2 (by decide) (pc' := 26) (by decide) ?_
  refine g_aloadN X0 hx hby d_cpI2_26 rfl rfl (rfl : 26 + 1 = 27) ?_
  refine g_iloadN X0 hx hby d_cpI2_27 rfl (rfl : 27 + 1 = 28) ?_
  refine g_iload X0 hx hby d_cpI2_28 rfl (rfl : 28 + 2 = 30) ?_
  refine g_i2b X0 hx hby d_cpI2_30 (rfl : 30 + 1 = 31) ?_
  obtain ⟨T1, h1, X1, e1, W1, V1, st1⟩ := a_bastore X0 hx hby hZ e0 (ls := #[.val (.ref a0), .val (.int (0 : Int32)), .val (.ref a2), .val (.int (0 : Int32)), .val (.int (2 : Int32)), .val (.int (0 : Int32)), .val (.int c0)]) (st := []) (j := (0 : Int32)) (c0.toInt8.toInt32) 0 hp2 ⟨by decide, by decide⟩ (by decide) (Nat.le_of_ble_eq_true rfl) d_cpI2_31
  have Z1 : n0 ≤ h1.size := Nat.le_trans Z0 (Keep.of_wr W1).1
  have N1 := Fr.snoc X1 N0 hp3
  have K1 : Keep h0 h1 [a2] := (Keep.refl h0 [a2]).wr W1 (Or.inl (List.mem_of_getElem? (i := 0) rfl))
  have V1' : Arv Z h1 a2 kb .byte (2 : Int32) [(.int (c0.toInt8.toInt32)), (.int (0 : Int32))] (.int (0 : Int32)) := by have q := V1; rw [own_nb] at q; exact q
  refine own_go st1 ?_
  show own_Got p e below _ T1 (mkF m 32 #[.val (.ref a0), .val (.int (0 : Int32)), .val (.ref a2), .val (.int (0 : Int32)), .val (.int (2 : Int32)), .val (.int (0 : Int32)), .val (.int c0)] [])
  refine g_iinc X1 hx hby #[.val (.ref a0), .val (.int ((0 : Int32) + (1 : Int32))), .val (.ref a2), .val (.int (0 : Int32)), .val (.int (2 : Int32)), .val (.int (0 : Int32)), .val (.int c0)] d_cpI2_32 rfl rfl (rfl : 32 + 3 = 35) ?_
  rw [(by decide : ((0 : Int32) + (1 : Int32)) = (1 : Int32))]
  refine g_iinc X1 hx hby #[.val (.ref a0), .val (.int (1 : Int32)), .val (.ref a2), .val (.int ((0 : Int32) + (1 : Int32))), .val (.int (2 : Int32)), .val (.int (0 : Int32)), .val (.int c0)] d_cpI2_35 rfl rfl (rfl : 35 + 3 = 38) ?_
  rw [(by decide : ((0 : Int32) + (1 : Int32)) = (1 : Int32))]
  refine g_iinc X1 hx hby #[.val (.ref a0), .val (.int (1 : Int32)), .val (.ref a2), .val (.int (1 : Int32)), .val (.int (2 : Int32)), .val (.int ((0 : Int32) + (1 : Int32))), .val (.int c0)] d_cpI2_38 rfl rfl (rfl : 38 + 3 = 41) ?_
  rw [(by decide : ((0 : Int32) + (1 : Int32)) = (1 : Int32))]
  refine g_goto X1 hx hby d_cpI2_41 (by decide) (pc' := 3) (by decide) ?_
  refine g_iload X1 hx hby d_cpI2_3 rfl (rfl : 3 + 2 = 5) ?_
  refine g_iload X1 hx hby d_cpI2_5 rfl (rfl : 5 + 2 = 7) ?_
  refine g_icF X1 hx hby d_cpI2_7 (tlt (by decide : (1 : Int32) < (2 : Int32))).2.1 (rfl : 7 + 3 = 10) ?_
  refine g_aloadN X1 hx hby d_cpI2_10 rfl rfl (rfl : 10 + 1 = 11) ?_
  refine g_iloadN X1 hx hby d_cpI2_11 rfl (rfl : 11 + 1 = 12) ?_
  have f2 : Arv Z h1 a0 kc .char (2 : Int32) [(.int c0), (.int c1)] (.int (0 : Int32)) := (Arv.other hp0 W1 hp4)
  refine g_caload X1 hx hby hZ e1 (v := (.int c1)) f2 ⟨by decide, by decide⟩ rfl d_cpI2_12 (rfl : 12 + 1 = 13) ?_
  refine g_istore X1 hx hby #[.val (.ref a0), .val (.int (1 : Int32)), .val (.ref a2), .val (.int (1 : Int32)), .val (.int (2 : Int32)), .val (.int (1 : Int32)), .val (.int c1)] d_cpI2_13 rfl (rfl : 13 + 2 = 15) ?_
  refine g_iload X1 hx hby d_cpI2_15 rfl (rfl : 15 + 2 = 17) ?_
  refine g_sipush X1 hx hby (255 : Int32) d_cpI2_17 (by decide) (rfl : 17 + 3 = 20) ?_
  refine g_icT X1 hx hby d_cpI2_20 (flt hq1).2.2.2 (by decide) (pc' := 26) (by decide) ?_
  refine g_aloadN X1 hx hby d_cpI2_26 rfl rfl (rfl : 26 + 1 = 27) ?_
  refine g_iloadN X1 hx hby d_cpI2_27 rfl (rfl : 27 + 1 = 28) ?_
  refine g_iload X1 hx hby d_cpI2_28 rfl (rfl : 28 + 2 = 30) ?_
  refine g_i2b X1 hx hby d_cpI2_30 (rfl : 30 + 1 = 31) ?_
  obtain ⟨T3, h3, X3, e3, W3, V3, st3⟩ := a_bastore X1 hx hby hZ e1 (ls := #[.val (.ref a0), .val (.int (1 : Int32)), .val (.ref a2), .val (.int (1 : Int32)), .val (.int (2 : Int32)), .val (.int (1 : Int32)), .val (.int c1)]) (st := []) (j := (1 : Int32)) (c1.toInt8.toInt32) 1 V1' ⟨by decide, by decide⟩ (by decide) (Nat.le_of_ble_eq_true rfl) d_cpI2_31
  have Z3 : n0 ≤ h3.size := Nat.le_trans Z1 (Keep.of_wr W3).1
  have N3 := Fr.snoc X3 N1 hp3
  have K3 : Keep h0 h3 [a2] := K1.wr W3 (Or.inl (List.mem_of_getElem? (i := 0) rfl))
  have V3' : Arv Z h3 a2 kb .byte (2 : Int32) [(.int (c0.toInt8.toInt32)), (.int (c1.toInt8.toInt32))] (.int (0 : Int32)) := by have q := V3; rw [own_nb] at q; exact q
  refine own_go st3 ?_
  show own_Got p e below _ T3 (mkF m 32 #[.val (.ref a0), .val (.int (1 : Int32)), .val (.ref a2), .val (.int (1 : Int32)), .val (.int (2 : Int32)), .val (.int (1 : Int32)), .val (.int c1)] [])
  refine g_iinc X3 hx hby #[.val (.ref a0), .val (.int ((1 : Int32) + (1 : Int32))), .val (.ref a2), .val (.int (1 : Int32)), .val (.int (2 : Int32)), .val (.int (1 : Int32)), .val (.int c1)] d_cpI2_32 rfl rfl (rfl : 32 + 3 = 35) ?_
  rw [(by decide : ((1 : Int32) + (1 : Int32)) = (2 : Int32))]
  refine g_iinc X3 hx hby #[.val (.ref a0), .val (.int (2 : Int32)), .val (.ref a2), .val (.int ((1 : Int32) + (1 : Int32))), .val (.int (2 : Int32)), .val (.int (1 : Int32)), .val (.int c1)] d_cpI2_35 rfl rfl (rfl : 35 + 3 = 38) ?_
  rw [(by decide : ((1 : Int32) + (1 : Int32)) = (2 : Int32))]
  refine g_iinc X3 hx hby #[.val (.ref a0), .val (.int (2 : Int32)), .val (.ref a2), .val (.int (2 : Int32)), .val (.int (2 : Int32)), .val (.int ((1 : Int32) + (1 : Int32))), .val (.int c1)] d_cpI2_38 rfl rfl (rfl : 38 + 3 = 41) ?_
  rw [(by decide : ((1 : Int32) + (1 : Int32)) = (2 : Int32))]
  refine g_goto X3 hx hby d_cpI2_41 (by decide) (pc' := 3) (by decide) ?_
  refine g_iload X3 hx hby d_cpI2_3 rfl (rfl : 3 + 2 = 5) ?_
  refine g_iload X3 hx hby d_cpI2_5 rfl (rfl : 5 + 2 = 7) ?_
  refine g_icT X3 hx hby d_cpI2_7 (flt (by decide : ¬ ((2 : Int32) < (2 : Int32)))).2.1 (by decide) (pc' := 44) (by decide) ?_
  refine g_iload X3 hx hby d_cpI2_44 rfl (rfl : 44 + 2 = 46) ?_
  have f4 : Exa Z h3 a2 "[B" := (Exa.wr W3 (Exa.wr W1 hp1))
  refine own_retI X3 hx hby hlk hrt d_cpI2_46 (by decide) (by decide) ?_
  show Q_cpI2 Z a0 a2 kc c0 c1 kb h0 n0 _ T3.heap _
  rw [e3]
  exact ⟨rfl, N3, K3, f4, V3'⟩
theorem d_cpB2_0 : decode jdk_52_method_16_code 0 = .ok (.iload_n 2, 1) := by decide +kernel
theorem d_cpB2_1 : decode jdk_52_method_16_code 1 = .ok (.newarray .byte, 2) := by decide +kernel
theorem d_cpB2_3 : decode jdk_52_method_16_code 3 = .ok (.astore_n 3, 1) := by decide +kernel
theorem d_cpB2_4 : decode jdk_52_method_16_code 4 = .ok (.aload_n 0, 1) := by decide +kernel
theorem d_cpB2_5 : decode jdk_52_method_16_code 5 = .ok (.iload_n 1, 1) := by decide +kernel
theorem d_cpB2_6 : decode jdk_52_method_16_code 6 = .ok (.aload_n 3, 1) := by decide +kernel
theorem d_cpB2_7 : decode jdk_52_method_16_code 7 = .ok (.iconst 0, 1) := by decide +kernel
theorem d_cpB2_8 : decode jdk_52_method_16_code 8 = .ok (.iload_n 2, 1) := by decide +kernel
theorem d_cpB2_9 : decode jdk_52_method_16_code 9 = .ok (.invokestatic 115, 3) := by decide +kernel
theorem d_cpB2_12 : decode jdk_52_method_16_code 12 = .ok (.istore 4, 2) := by decide +kernel
theorem d_cpB2_14 : decode jdk_52_method_16_code 14 = .ok (.iload 4, 2) := by decide +kernel
theorem d_cpB2_16 : decode jdk_52_method_16_code 16 = .ok (.iload_n 2, 1) := by decide +kernel
theorem d_cpB2_17 : decode jdk_52_method_16_code 17 = .ok (.if_icmp .eq 40, 3) := by decide +kernel
theorem d_cpB2_57 : decode jdk_52_method_16_code 57 = .ok (.aload_n 3, 1) := by decide +kernel
theorem d_cpB2_58 : decode jdk_52_method_16_code 58 = .ok (.areturn, 1) := by decide +kernel
theorem pd0 : parseMethodDescriptor "([CI[BII)I" = some ⟨[(.array .char), .int, (.array .byte), .int, .int], some .int⟩ := by decide +kernel
theorem ef_cpB2 (m : MethodId) (a0 : Addr) : entryFrame m #[(.ref a0), (.int (0 : Int32)), (.int (2 : Int32))] 6 = mkF m 0 #[.val (.ref a0), .val (.int (0 : Int32)), .val (.int (2 : Int32)), .unset, .unset, .unset] [] := by first | (simp [entryFrame, mkF, argsToLocals, Value.category]; done) | rfl
def Q_cpB2 (Z : State) (a0 : Addr) (kc : ClassId) (c0 : Int32) (c1 : Int32) (h0 : Heap) (n0 : Nat) (v : Option Value) (h : Heap) (L : List Loc) : Prop := ∃ (ob : Addr), ∃ (kb : ClassId), v = some (.ref ob) ∧ Fr n0 L ∧ Keep h0 h [] ∧ h0.size ≤ ob ∧ Exa Z h ob "[B" ∧ Arv Z h ob kb .byte (2 : Int32) [(.int (c0.toInt8.toInt32)), (.int (c1.toInt8.toInt32))] (.int (0 : Int32))
set_option maxRecDepth 65536 in
set_option maxHeartbeats 40000000 in
theorem rm_cpB2 (l : Launch) (Z : State) (aT : Array Value) (hw : ∀ d ∈ tables_1, d.before aT Z = true) (ws : List Jvm.Cond) (a0 : Addr) (kc : ClassId) (c0 : Int32) (c1 : Int32) (h0 : Heap) (n0 : Nat) (Z0 : n0 ≤ h0.size) (hp0 : Arv Z h0 a0 kc .char (2 : Int32) [(.int c0), (.int c1)] (.int (0 : Int32))) (hq0 : ¬ ((255 : Int32) < c0)) (hq1 : ¬ ((255 : Int32) < c1)) :
    MetFree l (⟨"java/lang/StringUTF16", "compress", "([CII)[B"⟩ : MethodName) (head1 (Jvm.Cond.code (⟨"java/lang/StringUTF16", "compress", "([CII)[B"⟩ : MethodName) jdk_52_method_16_code 6 (some (.array .byte)) :: ws) ({ frames := 1, cells := 1, slots := 2, locals := 18 } : Room)) (fun a U => a = #[(.ref a0), (.int (0 : Int32)), (.int (2 : Int32))] ∧ Z.Warmed39 U.vm ∧ U.heap = h0) (fun _ _ _ _ _ => True) (fun _ U o U' => ∃ v L, o = .returned v ∧ Q_cpB2 Z a0 kc c0 c1 h0 n0 v U'.heap L ∧ FrameEnd U o U' L ({ frames := 1, cells := 1, slots := 2, locals := 18 } : Room).cells ({ frames := 1, cells := 1, slots := 2, locals := 18 } : Room).slots) := by
  refine MetFree.of_bodySF (plainFor_of_name pn0) hisR ?_
  intro p e s m args below meth c s₁ Bd hml0 hP hK
  obtain ⟨rfl, hZ, hh⟩ := hP
  have hx := Bd.exec
  have hby := Bd.bytes
  have hml : c.maxLocals = 6 := hml0
  have hown : s.vm.findClass "java/lang/StringUTF16" = some m.cls := findClass_of_methodNamed Bd.named
  have hnm := (name_of_methodNamed Bd.named Bd.method).1
  have hlk := Bd.notSynchronized
  have hrt := Bd.returns
  have X0 : Stand p l e ({ frames := 1, cells := 1, slots := 2, locals := 18 } : Room) s m #[(.ref a0), (.int (0 : Int32)), (.int (2 : Int32))] below meth c s₁ [] 0 0 := Stand.of_body Bd
  have e0 : s₁.heap = h0 := by rw [← hh, Bd.state]; rfl
  have N0 := Fr.nil n0
  refine own_cast (P := own_End s (Q_cpB2 Z a0 kc c0 c1 h0 n0) ({ frames := 1, cells := 1, slots := 2, locals := 18 } : Room).cells ({ frames := 1, cells := 1, slots := 2, locals := 18 } : Room).slots) (ef_cpB2 m a0) ?_
  refine g_iloadN X0 hx hby d_cpB2_0 rfl (rfl : 0 + 1 = 1) ?_
  obtain ⟨T5, h5, k5, X5, e5, E5, A5, B5, st5⟩ := newPE X0 hx hZ (hw _ (List.mem_of_getElem? (i := 26) rfl)) e0 (g := (mkF m 1 #[.val (.ref a0), .val (.int (0 : Int32)), .val (.int (2 : Int32)), .unset, .unset, .unset] [(.int (2 : Int32))])) rfl (hb hby d_cpB2_1) rfl (by decide) (cap := 2) (by decide) (by decide) (by decide) (by decide) (ad := "[B") (by decide +kernel)
  obtain ⟨b5, g5⟩ : ∃ z, z = h0.size := ⟨_, rfl⟩
  rw [← g5] at A5 B5 st5
  have ne6 : a0 ≠ b5 := Nat.ne_of_lt (Nat.lt_of_lt_of_le (hp0).lt (Nat.le_of_eq g5.symm))
  have Z5 : n0 ≤ h5.size := Nat.le_trans Z0 E5.1
  have K5 : Keep h0 h5 [] := (Keep.refl h0 []).ext E5
  have ge5 : n0 ≤ b5 := Nat.le_trans Z0 (Nat.le_of_eq g5.symm)
  have sz5 : h0.size ≤ b5 := Nat.le_trans (Keep.refl h0 []).1 (Nat.le_of_eq g5.symm)
  have V5 : Arv Z h5 b5 k5 .byte (2 : Int32) [(.int (0 : Int32)), (.int (0 : Int32))] (.int (0 : Int32)) := (Arv.new A5 (by decide)).pad (pad_rep [] _ 2)
  refine own_go st5 ?_
  show own_Got p e below _ T5 (mkF m 3 #[.val (.ref a0), .val (.int (0 : Int32)), .val (.int (2 : Int32)), .unset, .unset, .unset] [(.ref b5)])
  refine g_astoreN X5 hx hby #[.val (.ref a0), .val (.int (0 : Int32)), .val (.int (2 : Int32)), .val (.ref b5), .unset, .unset] d_cpB2_3 rfl rfl (rfl : 3 + 1 = 4) ?_
  refine g_aloadN X5 hx hby d_cpB2_4 rfl rfl (rfl : 4 + 1 = 5) ?_
  refine g_iloadN X5 hx hby d_cpB2_5 rfl (rfl : 5 + 1 = 6) ?_
  refine g_aloadN X5 hx hby d_cpB2_6 rfl rfl (rfl : 6 + 1 = 7) ?_
  refine g_iconst X5 hx hby (0 : Int32) d_cpB2_7 (by decide) (rfl : 7 + 1 = 8) ?_
  refine g_iloadN X5 hx hby d_cpB2_8 rfl (rfl : 8 + 1 = 9) ?_
  have f8 : Arv Z h5 a0 kc .char (2 : Int32) [(.int c0), (.int c1)] (.int (0 : Int32)) := (hp0.ext E5)
  obtain ⟨_, _, ⟨T7, L7, k7, n7⟩, -, X7, ⟨Lc7, hQ7, l7, y7, z7⟩, st7⟩ := Jvm.LawKit.callS X5 hx (y := (⟨"java/lang/StringUTF16", "compress", "([CI[BII)I"⟩ : MethodName)) hown (mvT hZ (hw _ (List.mem_of_getElem? (i := 27) rfl))) (mvT hZ (hw _ (List.mem_of_getElem? (i := 28) rfl))) (mvT hZ (hw _ (List.mem_of_getElem? (i := 24) rfl))) (mvT hZ (hw _ (List.mem_of_getElem? (i := 29) rfl))) (by decide) (backOf (W := 0) (rm_cpI2 l Z aT hw [] a0 b5 kc c0 c1 k5 h5 n0 Z5 f8 B5 V5 ge5 ne6 hq0 hq1) hZ (hw _ (List.mem_of_getElem? (i := 29) rfl)) (hw _ (List.mem_of_getElem? (i := 24) rfl)) (by decide) (by decide)) (g := (mkF m 9 #[.val (.ref a0), .val (.int (0 : Int32)), .val (.int (2 : Int32)), .val (.ref b5), .unset, .unset] [(.int (2 : Int32)), (.int (0 : Int32)), (.ref b5), (.int (0 : Int32)), (.ref a0)])) rfl (by rw [hml]; rfl) (argsL := [(.ref a0), (.int (0 : Int32)), (.ref b5), (.int (0 : Int32)), (.int (2 : Int32))]) (rest := []) (lenOf pd0 rfl) rfl (by show 2 * 0 + _ ≤ _; exact Nat.le_of_eq rfl) (hb hby d_cpB2_9) (fun _ _ => ⟨rfl, e5, (by decide : 1 + 0 ≤ _), (by decide : 2 + 0 ≤ _)⟩)
  dsimp only [Pt.U, Pt.locs, Pt.cells, Pt.slots] at X7 l7 y7 z7 st7 hQ7
  subst l7 y7 z7
  obtain ⟨rfl, N7q, K7, q7_0, q7_1⟩ := hQ7
  have N7 := Fr.app N0 N7q
  have Z7 : n0 ≤ T7.heap.size := Nat.le_trans Z5 K7.1
  have KC7 : Keep h0 T7.heap [] := K5.trans K7 (allS (Or.inr sz5) all0)
  refine own_go st7 ?_
  show own_Got p e below _ T7 (mkF m 12 #[.val (.ref a0), .val (.int (0 : Int32)), .val (.int (2 : Int32)), .val (.ref b5), .unset, .unset] [(.int (2 : Int32))])
  refine g_istore X7 hx hby #[.val (.ref a0), .val (.int (0 : Int32)), .val (.int (2 : Int32)), .val (.ref b5), .val (.int (2 : Int32)), .unset] d_cpB2_12 rfl (rfl : 12 + 2 = 14) ?_
  refine g_iload X7 hx hby d_cpB2_14 rfl (rfl : 14 + 2 = 16) ?_
  refine g_iloadN X7 hx hby d_cpB2_16 rfl (rfl : 16 + 1 = 17) ?_
  refine g_icT X7 hx hby d_cpB2_17 (teq (by decide : (2 : Int32) = (2 : Int32))).1 (by decide) (pc' := 57) (by decide) ?_
  refine g_aloadN X7 hx hby d_cpB2_57 rfl rfl (rfl : 57 + 1 = 58) ?_
  refine own_retR X7 hx hby hlk hrt rfl d_cpB2_58 (by decide) (by decide) rfl ?_
  show Q_cpB2 Z a0 kc c0 c1 h0 n0 _ T7.heap _
  exact ⟨b5, k5, rfl, N7, KC7, sz5, q7_0, q7_1⟩
theorem d_cfl2_0 : decode jdk_52_method_15_code 0 = .ok (.iload_n 1, 1) := by decide +kernel
theorem d_cfl2_1 : decode jdk_52_method_15_code 1 = .ok (.aload_n 0, 1) := by decide +kernel
theorem d_cfl2_2 : decode jdk_52_method_15_code 2 = .ok (.arraylength, 1) := by decide +kernel
theorem d_cfl2_3 : decode jdk_52_method_15_code 3 = .ok (.isub, 1) := by decide +kernel
theorem d_cfl2_4 : decode jdk_52_method_15_code 4 = .ok (.bipush 31, 2) := by decide +kernel
theorem d_cfl2_6 : decode jdk_52_method_15_code 6 = .ok (.iushr, 1) := by decide +kernel
theorem d_cfl2_7 : decode jdk_52_method_15_code 7 = .ok (.i2b, 1) := by decide +kernel
theorem d_cfl2_8 : decode jdk_52_method_15_code 8 = .ok (.ireturn, 1) := by decide +kernel
theorem ef_cfl2 (m : MethodId) (a0 : Addr) : entryFrame m #[(.ref a0), (.int (2 : Int32))] 2 = mkF m 0 #[.val (.ref a0), .val (.int (2 : Int32))] [] := by first | (simp [entryFrame, mkF, argsToLocals, Value.category]; done) | rfl
def Q_cfl2 (Z : State) (a0 : Addr) (kb : ClassId) (vs : List Value) (h0 : Heap) (n0 : Nat) (v : Option Value) (h : Heap) (L : List Loc) : Prop := v = some (.int (0 : Int32)) ∧ Fr n0 L ∧ h = h0
set_option maxRecDepth 65536 in
set_option maxHeartbeats 40000000 in
theorem rm_cfl2 (l : Launch) (Z : State) (aT : Array Value) (hw : ∀ d ∈ tables_1, d.before aT Z = true) (ws : List Jvm.Cond) (a0 : Addr) (kb : ClassId) (vs : List Value) (h0 : Heap) (n0 : Nat) (Z0 : n0 ≤ h0.size) (hp0 : Arv Z h0 a0 kb .byte (2 : Int32) vs (.int (0 : Int32))) :
    MetFree l (⟨"java/lang/StringUTF16", "coderFromArrayLen", "([BI)B"⟩ : MethodName) (head1 (Jvm.Cond.code (⟨"java/lang/StringUTF16", "coderFromArrayLen", "([BI)B"⟩ : MethodName) jdk_52_method_15_code 2 (some .byte) :: ws) ({ frames := 0, cells := 0, slots := 0, locals := 0 } : Room)) (fun a U => a = #[(.ref a0), (.int (2 : Int32))] ∧ Z.Warmed39 U.vm ∧ U.heap = h0) (fun _ _ _ _ _ => True) (fun _ U o U' => ∃ v L, o = .returned v ∧ Q_cfl2 Z a0 kb vs h0 n0 v U'.heap L ∧ FrameEnd U o U' L ({ frames := 0, cells := 0, slots := 0, locals := 0 } : Room).cells ({ frames := 0, cells := 0, slots := 0, locals := 0 } : Room).slots) := by
  refine MetFree.of_bodySF (plainFor_of_name pn0) hisR ?_
  intro p e s m args below meth c s₁ Bd hml0 hP hK
  obtain ⟨rfl, hZ, hh⟩ := hP
  have hx := Bd.exec
  have hby := Bd.bytes
  have hml : c.maxLocals = 2 := hml0
  have hown : s.vm.findClass "java/lang/StringUTF16" = some m.cls := findClass_of_methodNamed Bd.named
  have hnm := (name_of_methodNamed Bd.named Bd.method).1
  have hlk := Bd.notSynchronized
  have hrt := Bd.returns
  have X0 : Stand p l e ({ frames := 0, cells := 0, slots := 0, locals := 0 } : Room) s m #[(.ref a0), (.int (2 : Int32))] below meth c s₁ [] 0 0 := Stand.of_body Bd
  have e0 : s₁.heap = h0 := by rw [← hh, Bd.state]; rfl
  have N0 := Fr.nil n0
  refine own_cast (P := own_End s (Q_cfl2 Z a0 kb vs h0 n0) ({ frames := 0, cells := 0, slots := 0, locals := 0 } : Room).cells ({ frames := 0, cells := 0, slots := 0, locals := 0 } : Room).slots) (ef_cfl2 m a0) ?_
  refine g_iloadN X0 hx hby d_cfl2_0 rfl (rfl : 0 + 1 = 1) ?_
  refine g_aloadN X0 hx hby d_cfl2_1 rfl rfl (rfl : 1 + 1 = 2) ?_
  refine g_alen X0 hx hby hZ e0 hp0 d_cfl2_2 (rfl : 2 + 1 = 3) ?_
  refine g_isub X0 hx hby d_cfl2_3 (rfl : 3 + 1 = 4) ?_
  rw [(by decide : ((2 : Int32) - (2 : Int32)) = (0 : Int32))]
  refine g_bipush X0 hx hby (31 : Int32) d_cfl2_4 (by decide) (rfl : 4 + 2 = 6) ?_
  refine g_iushr X0 hx hby d_cfl2_6 (rfl : 6 + 1 = 7) ?_
  rw [(by decide : (((0 : Int32).toUInt32 >>> ((31 : Int32) &&& 31).toUInt32).toInt32) = (0 : Int32))]
  refine g_i2b X0 hx hby d_cfl2_7 (rfl : 7 + 1 = 8) ?_
  rw [(by decide : ((0 : Int32).toInt8.toInt32) = (0 : Int32))]
  refine own_retN X0 hx hby hlk (t := .byte) hrt (by simp) d_cfl2_8 (by decide) (by decide) ?_
  show Q_cfl2 Z a0 kb vs h0 n0 _ s₁.heap _
  exact ⟨rfl, N0, e0⟩
theorem d_si2_2_0 : decode jdk_42_method_149_code 0 = .ok (.aload_n 0, 1) := by decide +kernel
theorem d_si2_2_1 : decode jdk_42_method_149_code 1 = .ok (.invokespecial 1, 3) := by decide +kernel
theorem d_si2_2_4 : decode jdk_42_method_149_code 4 = .ok (.iload_n 3, 1) := by decide +kernel
theorem d_si2_2_5 : decode jdk_42_method_149_code 5 = .ok (.ifCond .ne 22, 3) := by decide +kernel
theorem d_si2_2_27 : decode jdk_42_method_149_code 27 = .ok (.getstatic 38, 3) := by decide +kernel
theorem d_si2_2_30 : decode jdk_42_method_149_code 30 = .ok (.ifCond .eq 28, 3) := by decide +kernel
theorem d_si2_2_33 : decode jdk_42_method_149_code 33 = .ok (.aload_n 1, 1) := by decide +kernel
theorem d_si2_2_34 : decode jdk_42_method_149_code 34 = .ok (.iload_n 2, 1) := by decide +kernel
theorem d_si2_2_35 : decode jdk_42_method_149_code 35 = .ok (.iload_n 3, 1) := by decide +kernel
theorem d_si2_2_36 : decode jdk_42_method_149_code 36 = .ok (.invokestatic 177, 3) := by decide +kernel
theorem d_si2_2_39 : decode jdk_42_method_149_code 39 = .ok (.astore 5, 2) := by decide +kernel
theorem d_si2_2_41 : decode jdk_42_method_149_code 41 = .ok (.aload_n 0, 1) := by decide +kernel
theorem d_si2_2_42 : decode jdk_42_method_149_code 42 = .ok (.aload 5, 2) := by decide +kernel
theorem d_si2_2_44 : decode jdk_42_method_149_code 44 = .ok (.iload_n 3, 1) := by decide +kernel
theorem d_si2_2_45 : decode jdk_42_method_149_code 45 = .ok (.invokestatic 47, 3) := by decide +kernel
theorem d_si2_2_48 : decode jdk_42_method_149_code 48 = .ok (.putfield 15, 3) := by decide +kernel
theorem d_si2_2_51 : decode jdk_42_method_149_code 51 = .ok (.aload_n 0, 1) := by decide +kernel
theorem d_si2_2_52 : decode jdk_42_method_149_code 52 = .ok (.aload 5, 2) := by decide +kernel
theorem d_si2_2_54 : decode jdk_42_method_149_code 54 = .ok (.putfield 9, 3) := by decide +kernel
theorem d_si2_2_57 : decode jdk_42_method_149_code 57 = .ok (.return_, 1) := by decide +kernel
theorem pn1 : plainName "java/lang/String" = true := by first | (simp [plainName, overriddenIn]; done) | decide +kernel
theorem pd1 : parseMethodDescriptor "([CII)[B" = some ⟨[(.array .char), .int, .int], some (.array .byte)⟩ := by decide +kernel
theorem pd2 : parseMethodDescriptor "([BI)B" = some ⟨[(.array .byte), .int], some .byte⟩ := by decide +kernel
theorem ef_si2_2 (m : MethodId) (a0 : Addr) (a1 : Addr) : entryFrame m #[(.ref a0), (.ref a1), (.int (0 : Int32)), (.int (2 : Int32)), .null] 6 = mkF m 0 #[.val (.ref a0), .val (.ref a1), .val (.int (0 : Int32)), .val (.int (2 : Int32)), .val .null, .unset] [] := by first | (simp [entryFrame, mkF, argsToLocals, Value.category]; done) | rfl
def Q_si2_2 (Z : State) (a0 : Addr) (a1 : Addr) (kc : ClassId) (c0 : Int32) (c1 : Int32) (g1 : Int32) (h0 : Heap) (n0 : Nat) (v : Option Value) (h : Heap) (L : List Loc) : Prop := ∃ (ob : Addr), ∃ (kb : ClassId), v = none ∧ Fr n0 L ∧ Keep h0 h [a0] ∧ Exa Z h a0 "java/lang/String" ∧ Fld Z h a0 "java/lang/String" "coder" "B" (.int (0 : Int32)) ∧ Fld Z h a0 "java/lang/String" "value" "[B" (.ref ob) ∧ h0.size ≤ ob ∧ Exa Z h ob "[B" ∧ Arv Z h ob kb .byte (2 : Int32) [(.int (c0.toInt8.toInt32)), (.int (c1.toInt8.toInt32))] (.int (0 : Int32))
set_option maxRecDepth 65536 in
set_option maxHeartbeats 40000000 in
theorem rm_si2_2 (l : Launch) (Z : State) (aT : Array Value) (hw : ∀ d ∈ tables_1, d.before aT Z = true) (ws : List Jvm.Cond) (a0 : Addr) (a1 : Addr) (kc : ClassId) (c0 : Int32) (c1 : Int32) (g1 : Int32) (h0 : Heap) (n0 : Nat) (Z0 : n0 ≤ h0.size) (hp0 : Exa Z h0 a0 "java/lang/String") (hp1 : Fld Z h0 a0 "java/lang/String" "value" "[B" .null) (hp2 : Fld Z h0 a0 "java/lang/String" "coder" "B" (.int (0 : Int32))) (hp3 : n0 ≤ a0) (hp4 : Arv Z h0 a1 kc .char (2 : Int32) [(.int c0), (.int c1)] (.int (0 : Int32))) (hp5 : Sta Z h0 "java/lang/String" "COMPACT_STRINGS" "Z" (.int g1)) (hq0 : ¬ ((255 : Int32) < c0)) (hq1 : ¬ ((255 : Int32) < c1)) (hg1 : ¬ (g1 = (0 : Int32))) :
    MetFree l (⟨"java/lang/String", "<init>", "([CIILjava/lang/Void;)V"⟩ : MethodName) (head1 (Jvm.Cond.code (⟨"java/lang/String", "<init>", "([CIILjava/lang/Void;)V"⟩ : MethodName) jdk_42_method_149_code 6 none :: ws) ({ frames := 2, cells := 1, slots := 2, locals := 35 } : Room)) (fun a U => a = #[(.ref a0), (.ref a1), (.int (0 : Int32)), (.int (2 : Int32)), .null] ∧ Z.Warmed39 U.vm ∧ U.heap = h0) (fun _ _ _ _ _ => True) (fun _ U o U' => ∃ v L, o = .returned v ∧ Q_si2_2 Z a0 a1 kc c0 c1 g1 h0 n0 v U'.heap L ∧ FrameEnd U o U' L ({ frames := 2, cells := 1, slots := 2, locals := 35 } : Room).cells ({ frames := 2, cells := 1, slots := 2, locals := 35 } : Room).slots) := by
  refine MetFree.of_bodySF (plainFor_of_name pn1) hisR ?_
  intro p e s m args below meth c s₁ Bd hml0 hP hK
  obtain ⟨rfl, hZ, hh⟩ := hP
  have hx := Bd.exec
  have hby := Bd.bytes
  have hml : c.maxLocals = 6 := hml0
  have hown : s.vm.findClass "java/lang/String" = some m.cls := findClass_of_methodNamed Bd.named
  have hnm := (name_of_methodNamed Bd.named Bd.method).1
  have hlk := Bd.notSynchronized
  have hrt := Bd.returns
  have X0 : Stand p l e ({ frames := 2, cells := 1, slots := 2, locals := 35 } : Room) s m #[(.ref a0), (.ref a1), (.int (0 : Int32)), (.int (2 : Int32)), .null] below meth c s₁ [] 0 0 := Stand.of_body Bd
  have e0 : s₁.heap = h0 := by rw [← hh, Bd.state]; rfl
  have N0 := Fr.nil n0
  refine own_cast (P := own_End s (Q_si2_2 Z a0 a1 kc c0 c1 g1 h0 n0) ({ frames := 2, cells := 1, slots := 2, locals := 35 } : Room).cells ({ frames := 2, cells := 1, slots := 2, locals := 35 } : Room).slots) (ef_si2_2 m a0 a1) ?_
  refine g_aloadN X0 hx hby d_si2_2_0 rfl rfl (rfl : 0 + 1 = 1) ?_
  obtain ⟨T9, X9, e9, st9⟩ := initO X0 hx hZ hown (hw _ (List.mem_of_getElem? (i := 18) rfl)) (hw _ (List.mem_of_getElem? (i := 19) rfl)) (hw _ (List.mem_of_getElem? (i := 20) rfl)) e0 (g := (mkF m 1 #[.val (.ref a0), .val (.ref a1), .val (.int (0 : Int32)), .val (.int (2 : Int32)), .val .null, .unset] [(.ref a0)])) rfl (by rw [hml]; rfl) rfl (hb hby d_si2_2_1) (by decide) (W := 0) (by show 2 * 0 + _ ≤ _; exact Nat.le_of_eq rfl) (by decide)
  refine own_go st9 ?_
  show own_Got p e below _ T9 (mkF m 4 #[.val (.ref a0), .val (.ref a1), .val (.int (0 : Int32)), .val (.int (2 : Int32)), .val .null, .unset] [])
  refine g_iloadN X9 hx hby d_si2_2_4 rfl (rfl : 4 + 1 = 5) ?_
  refine g_ifT X9 hx hby d_si2_2_5 ((if0 _ _).trans (feq (by decide : ¬ ((2 : Int32) = (0 : Int32)))).2) (by decide) (pc' := 27) (by decide) ?_
  obtain ⟨T10, X10, e10, st10⟩ := getS2 X9 hx hZ hown (host := "") (Or.inl (hw _ (List.mem_of_getElem? (i := 21) rfl))) Via.refl e9 hp5 (g := (mkF m 27 #[.val (.ref a0), .val (.ref a1), .val (.int (0 : Int32)), .val (.int (2 : Int32)), .val .null, .unset] [])) rfl (hb hby d_si2_2_27)
  refine own_go st10 ?_
  show own_Got p e below _ T10 (mkF m 30 #[.val (.ref a0), .val (.ref a1), .val (.int (0 : Int32)), .val (.int (2 : Int32)), .val .null, .unset] [(.int g1)])
  refine g_ifF X10 hx hby d_si2_2_30 ((if0 _ _).trans (feq hg1).1) (rfl : 30 + 3 = 33) ?_
  refine g_aloadN X10 hx hby d_si2_2_33 rfl rfl (rfl : 33 + 1 = 34) ?_
  refine g_iloadN X10 hx hby d_si2_2_34 rfl (rfl : 34 + 1 = 35) ?_
  refine g_iloadN X10 hx hby d_si2_2_35 rfl (rfl : 35 + 1 = 36) ?_
  obtain ⟨_, _, ⟨T11, L11, k11, n11⟩, -, X11, ⟨Lc11, hQ11, l11, y11, z11⟩, st11⟩ := Jvm.LawKit.callS X10 hx (y := (⟨"java/lang/StringUTF16", "compress", "([CII)[B"⟩ : MethodName)) hown (mvT hZ (hw _ (List.mem_of_getElem? (i := 22) rfl))) (mvT hZ (hw _ (List.mem_of_getElem? (i := 23) rfl))) (mvT hZ (hw _ (List.mem_of_getElem? (i := 24) rfl))) (mvT hZ (hw _ (List.mem_of_getElem? (i := 25) rfl))) (by decide) (backOf (W := 0) (rm_cpB2 l Z aT hw [] a1 kc c0 c1 h0 n0 Z0 hp4 hq0 hq1) hZ (hw _ (List.mem_of_getElem? (i := 25) rfl)) (hw _ (List.mem_of_getElem? (i := 24) rfl)) (by decide) (by decide)) (g := (mkF m 36 #[.val (.ref a0), .val (.ref a1), .val (.int (0 : Int32)), .val (.int (2 : Int32)), .val .null, .unset] [(.int (2 : Int32)), (.int (0 : Int32)), (.ref a1)])) rfl (by rw [hml]; rfl) (argsL := [(.ref a1), (.int (0 : Int32)), (.int (2 : Int32))]) (rest := []) (lenOf pd1 rfl) rfl (by show 2 * 0 + _ ≤ _; exact Nat.le_of_eq rfl) (hb hby d_si2_2_36) (fun _ _ => ⟨rfl, e10, (by decide : 0 + 1 ≤ _), (by decide : 0 + 2 ≤ _)⟩)
  dsimp only [Pt.U, Pt.locs, Pt.cells, Pt.slots] at X11 l11 y11 z11 st11 hQ11
  subst l11 y11 z11
  obtain ⟨ob_11, kb_11, rfl, N11q, K11, q11_0, q11_1, q11_2⟩ := hQ11
  have N11 := Fr.app N0 N11q
  have Z11 : n0 ≤ T11.heap.size := Nat.le_trans Z0 K11.1
  have KC11 : Keep h0 T11.heap [a0] := (Keep.refl h0 [a0]).trans K11 all0
  have ne12 : a0 ≠ ob_11 := Nat.ne_of_lt (Nat.lt_of_lt_of_le (hp0).lt q11_0)
  have ne13 : a1 ≠ ob_11 := Nat.ne_of_lt (Nat.lt_of_lt_of_le (hp4).lt q11_0)
  have ge14 : n0 ≤ ob_11 := Nat.le_trans Z0 q11_0
  have sz15 : h0.size ≤ ob_11 := Nat.le_trans (Keep.refl h0 [a0]).1 q11_0
  refine own_go st11 ?_
  show own_Got p e below _ T11 (mkF m 39 #[.val (.ref a0), .val (.ref a1), .val (.int (0 : Int32)), .val (.int (2 : Int32)), .val .null, .unset] [(.ref ob_11)])
  refine g_astore X11 hx hby #[.val (.ref a0), .val (.ref a1), .val (.int (0 : Int32)), .val (.int (2 : Int32)), .val .null, .val (.ref ob_11)] d_si2_2_39 rfl rfl (rfl : 39 + 2 = 41) ?_
  refine g_aloadN X11 hx hby d_si2_2_41 rfl rfl (rfl : 41 + 1 = 42) ?_
  refine g_aload X11 hx hby d_si2_2_42 rfl rfl (rfl : 42 + 2 = 44) ?_
  refine g_iloadN X11 hx hby d_si2_2_44 rfl (rfl : 44 + 1 = 45) ?_
  obtain ⟨_, _, ⟨T16, L16, k16, n16⟩, -, X16, ⟨Lc16, hQ16, l16, y16, z16⟩, st16⟩ := Jvm.LawKit.callS X11 hx (y := (⟨"java/lang/StringUTF16", "coderFromArrayLen", "([BI)B"⟩ : MethodName)) hown (mvT hZ (hw _ (List.mem_of_getElem? (i := 30) rfl))) (mvT hZ (hw _ (List.mem_of_getElem? (i := 31) rfl))) (mvT hZ (hw _ (List.mem_of_getElem? (i := 24) rfl))) (mvT hZ (hw _ (List.mem_of_getElem? (i := 32) rfl))) (by decide) (backOf (W := 1) (rm_cfl2 l Z aT hw [] ob_11 kb_11 [(.int (c0.toInt8.toInt32)), (.int (c1.toInt8.toInt32))] T11.heap n0 Z11 q11_2) hZ (hw _ (List.mem_of_getElem? (i := 32) rfl)) (hw _ (List.mem_of_getElem? (i := 24) rfl)) (by decide) (by decide)) (g := (mkF m 45 #[.val (.ref a0), .val (.ref a1), .val (.int (0 : Int32)), .val (.int (2 : Int32)), .val .null, .val (.ref ob_11)] [(.int (2 : Int32)), (.ref ob_11), (.ref a0)])) rfl (by rw [hml]; rfl) (argsL := [(.ref ob_11), (.int (2 : Int32))]) (rest := [(.ref a0)]) (lenOf pd2 rfl) rfl (by show 2 * 0 + _ ≤ _; exact Nat.le_of_eq rfl) (hb hby d_si2_2_45) (fun _ _ => ⟨rfl, rfl, (by decide : 1 + 0 ≤ _), (by decide : 2 + 0 ≤ _)⟩)
  dsimp only [Pt.U, Pt.locs, Pt.cells, Pt.slots] at X16 l16 y16 z16 st16 hQ16
  subst l16 y16 z16
  obtain ⟨rfl, N16q, eq16⟩ := hQ16
  have N16 := Fr.app N11 N16q
  refine own_go st16 ?_
  show own_Got p e below _ T16 (mkF m 48 #[.val (.ref a0), .val (.ref a1), .val (.int (0 : Int32)), .val (.int (2 : Int32)), .val .null, .val (.ref ob_11)] [(.int (0 : Int32)), (.ref a0)])
  have f17 : Fld Z T11.heap a0 "java/lang/String" "coder" "B" (.int (0 : Int32)) := (Fld.keep hp2 K11 nin0)
  have f18 : Exa Z T11.heap a0 "java/lang/String" := (Exa.keep hp0 K11)
  obtain ⟨T19, h19, X19, e19, W19, st19⟩ := putFN X16 hx hZ hown (hw _ (List.mem_of_getElem? (i := 33) rfl)) Via.refl eq16 f17 f18 (Or.inr ⟨(hw _ (List.mem_of_getElem? (i := 34) rfl)), rfl, hnm⟩) (hw _ (List.mem_of_getElem? (i := 9) rfl)) (ty := .byte) (v' := (.int (0 : Int32))) (by decide) rfl rfl (g := (mkF m 48 #[.val (.ref a0), .val (.ref a1), .val (.int (0 : Int32)), .val (.int (2 : Int32)), .val .null, .val (.ref ob_11)] [(.int (0 : Int32)), (.ref a0)])) rfl rfl (hb hby d_si2_2_48)
  have Z19 : n0 ≤ h19.size := Nat.le_trans Z11 (Keep.of_wr W19).1
  have N19 := Fr.snoc X19 N16 hp3
  have K19 : Keep h0 h19 [a0] := KC11.wr W19 (Or.inl (List.mem_of_getElem? (i := 0) rfl))
  have f19 : Fld Z h19 a0 "java/lang/String" "coder" "B" (.int (0 : Int32)) := Fld.same W19 f17
  refine own_go st19 ?_
  show own_Got p e below _ T19 (mkF m 51 #[.val (.ref a0), .val (.ref a1), .val (.int (0 : Int32)), .val (.int (2 : Int32)), .val .null, .val (.ref ob_11)] [])
  refine g_aloadN X19 hx hby d_si2_2_51 rfl rfl (rfl : 51 + 1 = 52) ?_
  refine g_aload X19 hx hby d_si2_2_52 rfl rfl (rfl : 52 + 2 = 54) ?_
  have f20 : Fld Z h19 a0 "java/lang/String" "value" "[B" .null := (Fld.other W19 (Fld.keep hp1 K11 nin0) (Or.inr (slot_ne (Or.inr (hw _ (List.mem_of_getElem? (i := 36) rfl))) (Or.inr (hw _ (List.mem_of_getElem? (i := 34) rfl))) (by decide) (t := (.array .byte)) (t' := .byte) (by decide) (by decide))))
  have f21 : Exa Z h19 a0 "java/lang/String" := (Exa.wr W19 f18)
  obtain ⟨T22, h22, X22, e22, W22, st22⟩ := putF X19 hx hZ hown (host := "") (Or.inl (hw _ (List.mem_of_getElem? (i := 35) rfl))) Via.refl e19 f20 f21 (Or.inr ⟨(hw _ (List.mem_of_getElem? (i := 36) rfl)), rfl, hnm⟩) (hw _ (List.mem_of_getElem? (i := 9) rfl)) (ty := (.array .byte)) (by decide) rfl rfl (g := (mkF m 54 #[.val (.ref a0), .val (.ref a1), .val (.int (0 : Int32)), .val (.int (2 : Int32)), .val .null, .val (.ref ob_11)] [(.ref ob_11), (.ref a0)])) rfl rfl (hb hby d_si2_2_54)
  have Z22 : n0 ≤ h22.size := Nat.le_trans Z19 (Keep.of_wr W22).1
  have N22 := Fr.snoc X22 N19 hp3
  have K22 : Keep h0 h22 [a0] := K19.wr W22 (Or.inl (List.mem_of_getElem? (i := 0) rfl))
  have f22 : Fld Z h22 a0 "java/lang/String" "value" "[B" (.ref ob_11) := Fld.same W22 f20
  refine own_go st22 ?_
  show own_Got p e below _ T22 (mkF m 57 #[.val (.ref a0), .val (.ref a1), .val (.int (0 : Int32)), .val (.int (2 : Int32)), .val .null, .val (.ref ob_11)] [])
  have f23 : Exa Z h22 a0 "java/lang/String" := (Exa.wr W22 f21)
  have f24 : Fld Z h22 a0 "java/lang/String" "coder" "B" (.int (0 : Int32)) := (Fld.other W22 f19 (Or.inr (slot_ne (Or.inr (hw _ (List.mem_of_getElem? (i := 34) rfl))) (Or.inr (hw _ (List.mem_of_getElem? (i := 36) rfl))) (by decide) (t := .byte) (t' := (.array .byte)) (by decide) (by decide))))
  have f25 : Exa Z h22 ob_11 "[B" := (Exa.wr W22 (Exa.wr W19 q11_1))
  have f26 : Arv Z h22 ob_11 kb_11 .byte (2 : Int32) [(.int (c0.toInt8.toInt32)), (.int (c1.toInt8.toInt32))] (.int (0 : Int32)) := (Arv.other (Arv.other q11_2 W19 (Ne.symm ne12)) W22 (Ne.symm ne12))
  refine own_retV X22 hx hby hlk hrt d_si2_2_57 (by decide) (by decide) ?_
  show Q_si2_2 Z a0 a1 kc c0 c1 g1 h0 n0 _ T22.heap _
  rw [e22]
  exact ⟨ob_11, kb_11, rfl, N22, K22, f23, f24, f22, sz15, f25, f26⟩
theorem d_si1_2_0 : decode jdk_42_method_3_code 0 = .ok (.aload_n 0, 1) := by decide +kernel
theorem d_si1_2_1 : decode jdk_42_method_3_code 1 = .ok (.aload_n 1, 1) := by decide +kernel
theorem d_si1_2_2 : decode jdk_42_method_3_code 2 = .ok (.iconst 0, 1) := by decide +kernel
theorem d_si1_2_3 : decode jdk_42_method_3_code 3 = .ok (.aload_n 1, 1) := by decide +kernel
theorem d_si1_2_4 : decode jdk_42_method_3_code 4 = .ok (.arraylength, 1) := by decide +kernel
theorem d_si1_2_5 : decode jdk_42_method_3_code 5 = .ok (.aconst_null, 1) := by decide +kernel
theorem d_si1_2_6 : decode jdk_42_method_3_code 6 = .ok (.invokespecial 27, 3) := by decide +kernel
theorem d_si1_2_9 : decode jdk_42_method_3_code 9 = .ok (.return_, 1) := by decide +kernel
theorem pd3 : parseMethodDescriptor "([CIILjava/lang/Void;)V" = some ⟨[(.array .char), .int, .int, (.object "java/lang/Void")], none⟩ := by decide +kernel
theorem ef_si1_2 (m : MethodId) (a0 : Addr) (a1 : Addr) : entryFrame m #[(.ref a0), (.ref a1)] 2 = mkF m 0 #[.val (.ref a0), .val (.ref a1)] [] := by first | (simp [entryFrame, mkF, argsToLocals, Value.category]; done) | rfl
def Q_si1_2 (Z : State) (a0 : Addr) (a1 : Addr) (kc : ClassId) (c0 : Int32) (c1 : Int32) (g1 : Int32) (h0 : Heap) (n0 : Nat) (v : Option Value) (h : Heap) (L : List Loc) : Prop := ∃ (ob : Addr), ∃ (kb : ClassId), v = none ∧ Fr n0 L ∧ Keep h0 h [a0] ∧ Exa Z h a0 "java/lang/String" ∧ Fld Z h a0 "java/lang/String" "coder" "B" (.int (0 : Int32)) ∧ Fld Z h a0 "java/lang/String" "value" "[B" (.ref ob) ∧ h0.size ≤ ob ∧ Exa Z h ob "[B" ∧ Arv Z h ob kb .byte (2 : Int32) [(.int (c0.toInt8.toInt32)), (.int (c1.toInt8.toInt32))] (.int (0 : Int32))
set_option maxRecDepth 65536 in
set_option maxHeartbeats 40000000 in
theorem rm_si1_2 (l : Launch) (Z : State) (aT : Array Value) (hw : ∀ d ∈ tables_1, d.before aT Z = true) (ws : List Jvm.Cond) (a0 : Addr) (a1 : Addr) (kc : ClassId) (c0 : Int32) (c1 : Int32) (g1 : Int32) (h0 : Heap) (n0 : Nat) (Z0 : n0 ≤ h0.size) (hp0 : Exa Z h0 a0 "java/lang/String") (hp1 : Fld Z h0 a0 "java/lang/String" "value" "[B" .null) (hp2 : Fld Z h0 a0 "java/lang/String" "coder" "B" (.int (0 : Int32))) (hp3 : n0 ≤ a0) (hp4 : Arv Z h0 a1 kc .char (2 : Int32) [(.int c0), (.int c1)] (.int (0 : Int32))) (hp5 : Sta Z h0 "java/lang/String" "COMPACT_STRINGS" "Z" (.int g1)) (hq0 : ¬ ((255 : Int32) < c0)) (hq1 : ¬ ((255 : Int32) < c1)) (hg1 : ¬ (g1 = (0 : Int32))) :
    MetFree l (⟨"java/lang/String", "<init>", "([C)V"⟩ : MethodName) (head1 (Jvm.Cond.code (⟨"java/lang/String", "<init>", "([C)V"⟩ : MethodName) jdk_42_method_3_code 2 none :: ws) ({ frames := 3, cells := 1, slots := 2, locals := 52 } : Room)) (fun a U => a = #[(.ref a0), (.ref a1)] ∧ Z.Warmed39 U.vm ∧ U.heap = h0) (fun _ _ _ _ _ => True) (fun _ U o U' => ∃ v L, o = .returned v ∧ Q_si1_2 Z a0 a1 kc c0 c1 g1 h0 n0 v U'.heap L ∧ FrameEnd U o U' L ({ frames := 3, cells := 1, slots := 2, locals := 52 } : Room).cells ({ frames := 3, cells := 1, slots := 2, locals := 52 } : Room).slots) := by
  refine MetFree.of_bodySF (plainFor_of_name pn1) hisR ?_
  intro p e s m args below meth c s₁ Bd hml0 hP hK
  obtain ⟨rfl, hZ, hh⟩ := hP
  have hx := Bd.exec
  have hby := Bd.bytes
  have hml : c.maxLocals = 2 := hml0
  have hown : s.vm.findClass "java/lang/String" = some m.cls := findClass_of_methodNamed Bd.named
  have hnm := (name_of_methodNamed Bd.named Bd.method).1
  have hlk := Bd.notSynchronized
  have hrt := Bd.returns
  have X0 : Stand p l e ({ frames := 3, cells := 1, slots := 2, locals := 52 } : Room) s m #[(.ref a0), (.ref a1)] below meth c s₁ [] 0 0 := Stand.of_body Bd
  have e0 : s₁.heap = h0 := by rw [← hh, Bd.state]; rfl
  have N0 := Fr.nil n0
  refine own_cast (P := own_End s (Q_si1_2 Z a0 a1 kc c0 c1 g1 h0 n0) ({ frames := 3, cells := 1, slots := 2, locals := 52 } : Room).cells ({ frames := 3, cells := 1, slots := 2, locals := 52 } : Room).slots) (ef_si1_2 m a0 a1) ?_
  refine g_aloadN X0 hx hby d_si1_2_0 rfl rfl (rfl : 0 + 1 = 1) ?_
  refine g_aloadN X0 hx hby d_si1_2_1 rfl rfl (rfl : 1 + 1 = 2) ?_
  refine g_iconst X0 hx hby (0 : Int32) d_si1_2_2 (by decide) (rfl : 2 + 1 = 3) ?_
  refine g_aloadN X0 hx hby d_si1_2_3 rfl rfl (rfl : 3 + 1 = 4) ?_
  refine g_alen X0 hx hby hZ e0 hp4 d_si1_2_4 (rfl : 4 + 1 = 5) ?_
  refine g_anull X0 hx hby d_si1_2_5 (rfl : 5 + 1 = 6) ?_
  obtain ⟨_, _, ⟨T27, L27, k27, n27⟩, -, X27, ⟨Lc27, hQ27, l27, y27, z27⟩, st27⟩ := X0.specialBack hx (y := (⟨"java/lang/String", "<init>", "([CIILjava/lang/Void;)V"⟩ : MethodName)) rfl hown (mvT hZ (hw _ (List.mem_of_getElem? (i := 14) rfl))) (mvT hZ (hw _ (List.mem_of_getElem? (i := 15) rfl))) (mvT hZ (hw _ (List.mem_of_getElem? (i := 17) rfl))) (by decide) (backOf (W := 0) (rm_si2_2 l Z aT hw [] a0 a1 kc c0 c1 g1 h0 n0 Z0 hp0 hp1 hp2 hp3 hp4 hp5 hq0 hq1 hg1) hZ (hw _ (List.mem_of_getElem? (i := 17) rfl)) (hw _ (List.mem_of_getElem? (i := 10) rfl)) (by decide) (by decide)) (g := (mkF m 6 #[.val (.ref a0), .val (.ref a1)] [.null, (.int (2 : Int32)), (.int (0 : Int32)), (.ref a1), (.ref a0)])) rfl (by rw [hml]; rfl) (Steps.refl _) (a := a0) (argsL := [(.ref a1), (.int (0 : Int32)), (.int (2 : Int32)), .null]) (rest := []) (lenOf pd3 rfl) rfl (by show 2 * 0 + _ ≤ _; exact Nat.le_of_eq rfl) (hb hby d_si1_2_6) (fun _ _ => ⟨rfl, e0, (by decide : 0 + 1 ≤ _), (by decide : 0 + 2 ≤ _)⟩)
  dsimp only [Pt.U, Pt.locs, Pt.cells, Pt.slots] at X27 l27 y27 z27 st27 hQ27
  subst l27 y27 z27
  obtain ⟨ob_27, kb_27, rfl, N27q, K27, q27_0, q27_1, q27_2, q27_3, q27_4, q27_5⟩ := hQ27
  have N27 := Fr.app N0 N27q
  have Z27 : n0 ≤ T27.heap.size := Nat.le_trans Z0 K27.1
  have KC27 : Keep h0 T27.heap [a0] := (Keep.refl h0 [a0]).trans K27 (allS (Or.inl (List.mem_of_getElem? (i := 0) rfl)) all0)
  have ne28 : a0 ≠ ob_27 := Nat.ne_of_lt (Nat.lt_of_lt_of_le (hp0).lt q27_3)
  have ne29 : a1 ≠ ob_27 := Nat.ne_of_lt (Nat.lt_of_lt_of_le (hp4).lt q27_3)
  have ge30 : n0 ≤ ob_27 := Nat.le_trans Z0 q27_3
  have sz31 : h0.size ≤ ob_27 := Nat.le_trans (Keep.refl h0 [a0]).1 q27_3
  refine own_tr st27 ?_
  show own_Got p e below _ T27 (mkF m 9 #[.val (.ref a0), .val (.ref a1)] [])
  refine own_retV X27 hx hby hlk hrt d_si1_2_9 (by decide) (by decide) ?_
  show Q_si1_2 Z a0 a1 kc c0 c1 g1 h0 n0 _ T27.heap _
  exact ⟨ob_27, kb_27, rfl, N27, KC27, q27_0, q27_1, q27_2, sz31, q27_4, q27_5⟩
theorem d_rol_0 : decode method_3_code 0 = .ok (.iload_n 0, 1) := by decide +kernel
theorem d_rol_1 : decode method_3_code 1 = .ok (.iconst 3, 1) := by decide +kernel
theorem d_rol_2 : decode method_3_code 2 = .ok (.iand, 1) := by decide +kernel
theorem d_rol_3 : decode method_3_code 3 = .ok (.istore_n 1, 1) := by decide +kernel
theorem d_rol_4 : decode method_3_code 4 = .ok (.iload_n 1, 1) := by decide +kernel
theorem d_rol_5 : decode method_3_code 5 = .ok (.ifCond .ne 7, 3) := by decide +kernel
theorem d_rol_8 : decode method_3_code 8 = .ok (.getstatic 20, 3) := by decide +kernel
theorem d_rol_11 : decode method_3_code 11 = .ok (.areturn, 1) := by decide +kernel
theorem d_rol_12 : decode method_3_code 12 = .ok (.iload_n 1, 1) := by decide +kernel
theorem d_rol_13 : decode method_3_code 13 = .ok (.iconst 1, 1) := by decide +kernel
theorem d_rol_14 : decode method_3_code 14 = .ok (.if_icmp .ne 7, 3) := by decide +kernel
theorem d_rol_17 : decode method_3_code 17 = .ok (.getstatic 26, 3) := by decide +kernel
theorem d_rol_20 : decode method_3_code 20 = .ok (.areturn, 1) := by decide +kernel
theorem d_rol_21 : decode method_3_code 21 = .ok (.aconst_null, 1) := by decide +kernel
theorem d_rol_22 : decode method_3_code 22 = .ok (.areturn, 1) := by decide +kernel
theorem pn2 : plainName "com/example/farshard/farshard/store/LinkInPinLaw" = true := by first | (simp [plainName, overriddenIn]; done) | decide +kernel
theorem ef_rol (m : MethodId) (x0 : Int32) : entryFrame m #[(.int x0)] 2 = mkF m 0 #[.val (.int x0), .unset] [] := by first | (simp [entryFrame, mkF, argsToLocals, Value.category]; done) | rfl
def Q_rol (Z : State) (x0 : Int32) (wL : Addr) (wF : Addr) (h0 : Heap) (n0 : Nat) (v : Option Value) (h : Heap) (L : List Loc) : Prop := ∃ (r : Value), v = some r ∧ Fr n0 L ∧ h = h0 ∧ r.isRef = true
set_option maxRecDepth 65536 in
set_option maxHeartbeats 40000000 in
theorem rm_rol (l : Launch) (Z : State) (aT : Array Value) (hw : ∀ d ∈ tables_1, d.before aT Z = true) (ws : List Jvm.Cond) (x0 : Int32) (wL : Addr) (wF : Addr) (h0 : Heap) (n0 : Nat) (Z0 : n0 ≤ h0.size) (hp0 : Sta Z h0 "com/example/farshard/farshard/store/Link$Role" "LEADER" "Lcom/example/farshard/farshard/store/Link$Role;" (.ref wL)) (hp1 : Sta Z h0 "com/example/farshard/farshard/store/Link$Role" "FOLLOWER" "Lcom/example/farshard/farshard/store/Link$Role;" (.ref wF)) :
    MetFree l (⟨"com/example/farshard/farshard/store/LinkInPinLaw", "role", "(I)Lcom/example/farshard/farshard/store/Link$Role;"⟩ : MethodName) (head1 (Jvm.Cond.code (⟨"com/example/farshard/farshard/store/LinkInPinLaw", "role", "(I)Lcom/example/farshard/farshard/store/Link$Role;"⟩ : MethodName) method_3_code 2 (some (.object "com/example/farshard/farshard/store/Link$Role")) :: ws) ({ frames := 0, cells := 0, slots := 0, locals := 0 } : Room)) (fun a U => a = #[(.int x0)] ∧ Z.Warmed39 U.vm ∧ U.heap = h0) (fun _ _ _ _ _ => True) (fun _ U o U' => ∃ v L, o = .returned v ∧ Q_rol Z x0 wL wF h0 n0 v U'.heap L ∧ FrameEnd U o U' L ({ frames := 0, cells := 0, slots := 0, locals := 0 } : Room).cells ({ frames := 0, cells := 0, slots := 0, locals := 0 } : Room).slots) := by
  refine MetFree.of_bodySF (plainFor_of_name pn2) hisR ?_
  intro p e s m args below meth c s₁ Bd hml0 hP hK
  obtain ⟨rfl, hZ, hh⟩ := hP
  have hx := Bd.exec
  have hby := Bd.bytes
  have hml : c.maxLocals = 2 := hml0
  have hown : s.vm.findClass "com/example/farshard/farshard/store/LinkInPinLaw" = some m.cls := findClass_of_methodNamed Bd.named
  have hnm := (name_of_methodNamed Bd.named Bd.method).1
  have hlk := Bd.notSynchronized
  have hrt := Bd.returns
  have X0 : Stand p l e ({ frames := 0, cells := 0, slots := 0, locals := 0 } : Room) s m #[(.int x0)] below meth c s₁ [] 0 0 := Stand.of_body Bd
  have e0 : s₁.heap = h0 := by rw [← hh, Bd.state]; rfl
  have N0 := Fr.nil n0
  refine own_cast (P := own_End s (Q_rol Z x0 wL wF h0 n0) ({ frames := 0, cells := 0, slots := 0, locals := 0 } : Room).cells ({ frames := 0, cells := 0, slots := 0, locals := 0 } : Room).slots) (ef_rol m x0) ?_
  refine g_iloadN X0 hx hby d_rol_0 rfl (rfl : 0 + 1 = 1) ?_
  refine g_iconst X0 hx hby (3 : Int32) d_rol_1 (by decide) (rfl : 1 + 1 = 2) ?_
  refine g_iand X0 hx hby d_rol_2 (rfl : 2 + 1 = 3) ?_
  refine g_istoreN X0 hx hby #[.val (.int x0), .val (.int (x0 &&& (3 : Int32)))] d_rol_3 rfl (rfl : 3 + 1 = 4) ?_
  refine g_iloadN X0 hx hby d_rol_4 rfl (rfl : 4 + 1 = 5) ?_
  by_cases c32 : (x0 &&& (3 : Int32)) = (0 : Int32)
  · refine g_ifF X0 hx hby d_rol_5 ((if0 _ _).trans (teq c32).2) (rfl : 5 + 3 = 8) ?_
    obtain ⟨T33, X33, e33, st33⟩ := getS2 X0 hx hZ hown (host := "") (Or.inl (hw _ (List.mem_of_getElem? (i := 4) rfl))) Via.refl e0 hp0 (g := (mkF m 8 #[.val (.int x0), .val (.int (x0 &&& (3 : Int32)))] [])) rfl (hb hby d_rol_8)
    refine own_go st33 ?_
    show own_Got p e below _ T33 (mkF m 11 #[.val (.int x0), .val (.int (x0 &&& (3 : Int32)))] [(.ref wL)])
    refine own_retR X33 hx hby hlk hrt rfl d_rol_11 (by decide) (by decide) rfl ?_
    show Q_rol Z x0 wL wF h0 n0 _ T33.heap _
    exact ⟨(.ref wL), rfl, N0, e33, rfl⟩
  · refine g_ifT X0 hx hby d_rol_5 ((if0 _ _).trans (feq c32).2) (by decide) (pc' := 12) (by decide) ?_
    refine g_iloadN X0 hx hby d_rol_12 rfl (rfl : 12 + 1 = 13) ?_
    refine g_iconst X0 hx hby (1 : Int32) d_rol_13 (by decide) (rfl : 13 + 1 = 14) ?_
    by_cases c34 : (x0 &&& (3 : Int32)) = (1 : Int32)
    · refine g_icF X0 hx hby d_rol_14 (teq c34).2 (rfl : 14 + 3 = 17) ?_
      obtain ⟨T35, X35, e35, st35⟩ := getS2 X0 hx hZ hown (host := "") (Or.inl (hw _ (List.mem_of_getElem? (i := 95) rfl))) Via.refl e0 hp1 (g := (mkF m 17 #[.val (.int x0), .val (.int (x0 &&& (3 : Int32)))] [])) rfl (hb hby d_rol_17)
      refine own_go st35 ?_
      show own_Got p e below _ T35 (mkF m 20 #[.val (.int x0), .val (.int (x0 &&& (3 : Int32)))] [(.ref wF)])
      refine own_retR X35 hx hby hlk hrt rfl d_rol_20 (by decide) (by decide) rfl ?_
      show Q_rol Z x0 wL wF h0 n0 _ T35.heap _
      exact ⟨(.ref wF), rfl, N0, e35, rfl⟩
    · refine g_icT X0 hx hby d_rol_14 (feq c34).2 (by decide) (pc' := 21) (by decide) ?_
      refine g_anull X0 hx hby d_rol_21 (rfl : 21 + 1 = 22) ?_
      refine own_retR X0 hx hby hlk hrt rfl d_rol_22 (by decide) (by decide) rfl ?_
      show Q_rol Z x0 wL wF h0 n0 _ s₁.heap _
      exact ⟨.null, rfl, N0, e0, rfl⟩
theorem d_sta_0 : decode method_2_code 0 = .ok (.iload_n 0, 1) := by decide +kernel
theorem d_sta_1 : decode method_2_code 1 = .ok (.ldc 7, 2) := by decide +kernel
theorem d_sta_3 : decode method_2_code 3 = .ok (.iand, 1) := by decide +kernel
theorem d_sta_4 : decode method_2_code 4 = .ok (.iconst 4, 1) := by decide +kernel
theorem d_sta_5 : decode method_2_code 5 = .ok (.irem, 1) := by decide +kernel
theorem d_sta_6 : decode method_2_code 6 = .ok (.istore_n 1, 1) := by decide +kernel
theorem d_sta_7 : decode method_2_code 7 = .ok (.iload_n 1, 1) := by decide +kernel
theorem d_sta_8 : decode method_2_code 8 = .ok (.ifCond .ne 7, 3) := by decide +kernel
theorem d_sta_11 : decode method_2_code 11 = .ok (.getstatic 8, 3) := by decide +kernel
theorem d_sta_14 : decode method_2_code 14 = .ok (.areturn, 1) := by decide +kernel
theorem d_sta_15 : decode method_2_code 15 = .ok (.iload_n 1, 1) := by decide +kernel
theorem d_sta_16 : decode method_2_code 16 = .ok (.iconst 1, 1) := by decide +kernel
theorem d_sta_17 : decode method_2_code 17 = .ok (.if_icmp .ne 7, 3) := by decide +kernel
theorem d_sta_20 : decode method_2_code 20 = .ok (.getstatic 14, 3) := by decide +kernel
theorem d_sta_23 : decode method_2_code 23 = .ok (.areturn, 1) := by decide +kernel
theorem d_sta_24 : decode method_2_code 24 = .ok (.iload_n 1, 1) := by decide +kernel
theorem d_sta_25 : decode method_2_code 25 = .ok (.iconst 2, 1) := by decide +kernel
theorem d_sta_26 : decode method_2_code 26 = .ok (.if_icmp .ne 7, 3) := by decide +kernel
theorem d_sta_29 : decode method_2_code 29 = .ok (.getstatic 17, 3) := by decide +kernel
theorem d_sta_32 : decode method_2_code 32 = .ok (.areturn, 1) := by decide +kernel
theorem d_sta_33 : decode method_2_code 33 = .ok (.aconst_null, 1) := by decide +kernel
theorem d_sta_34 : decode method_2_code 34 = .ok (.areturn, 1) := by decide +kernel
theorem ef_sta (m : MethodId) (x0 : Int32) : entryFrame m #[(.int x0)] 2 = mkF m 0 #[.val (.int x0), .unset] [] := by first | (simp [entryFrame, mkF, argsToLocals, Value.category]; done) | rfl
def Q_sta (Z : State) (x0 : Int32) (wR : Addr) (wG : Addr) (wB : Addr) (h0 : Heap) (n0 : Nat) (v : Option Value) (h : Heap) (L : List Loc) : Prop := ∃ (r : Value), v = some r ∧ Fr n0 L ∧ h = h0 ∧ r.isRef = true
set_option maxRecDepth 65536 in
set_option maxHeartbeats 40000000 in
theorem rm_sta (l : Launch) (Z : State) (aT : Array Value) (hw : ∀ d ∈ tables_1, d.before aT Z = true) (ws : List Jvm.Cond) (x0 : Int32) (wR : Addr) (wG : Addr) (wB : Addr) (h0 : Heap) (n0 : Nat) (Z0 : n0 ≤ h0.size) (hp0 : Sta Z h0 "com/example/farshard/farshard/store/Link$State" "RECOVERING" "Lcom/example/farshard/farshard/store/Link$State;" (.ref wR)) (hp1 : Sta Z h0 "com/example/farshard/farshard/store/Link$State" "FOLLOWING" "Lcom/example/farshard/farshard/store/Link$State;" (.ref wG)) (hp2 : Sta Z h0 "com/example/farshard/farshard/store/Link$State" "BROKEN" "Lcom/example/farshard/farshard/store/Link$State;" (.ref wB)) :
    MetFree l (⟨"com/example/farshard/farshard/store/LinkInPinLaw", "st", "(I)Lcom/example/farshard/farshard/store/Link$State;"⟩ : MethodName) (head1 (Jvm.Cond.code (⟨"com/example/farshard/farshard/store/LinkInPinLaw", "st", "(I)Lcom/example/farshard/farshard/store/Link$State;"⟩ : MethodName) method_2_code 2 (some (.object "com/example/farshard/farshard/store/Link$State")) :: ws) ({ frames := 0, cells := 0, slots := 0, locals := 0 } : Room)) (fun a U => a = #[(.int x0)] ∧ Z.Warmed39 U.vm ∧ U.heap = h0) (fun _ _ _ _ _ => True) (fun _ U o U' => ∃ v L, o = .returned v ∧ Q_sta Z x0 wR wG wB h0 n0 v U'.heap L ∧ FrameEnd U o U' L ({ frames := 0, cells := 0, slots := 0, locals := 0 } : Room).cells ({ frames := 0, cells := 0, slots := 0, locals := 0 } : Room).slots) := by
  refine MetFree.of_bodySF (plainFor_of_name pn2) hisR ?_
  intro p e s m args below meth c s₁ Bd hml0 hP hK
  obtain ⟨rfl, hZ, hh⟩ := hP
  have hx := Bd.exec
  have hby := Bd.bytes
  have hml : c.maxLocals = 2 := hml0
  have hown : s.vm.findClass "com/example/farshard/farshard/store/LinkInPinLaw" = some m.cls := findClass_of_methodNamed Bd.named
  have hnm := (name_of_methodNamed Bd.named Bd.method).1
  have hlk := Bd.notSynchronized
  have hrt := Bd.returns
  have X0 : Stand p l e ({ frames := 0, cells := 0, slots := 0, locals := 0 } : Room) s m #[(.int x0)] below meth c s₁ [] 0 0 := Stand.of_body Bd
  have e0 : s₁.heap = h0 := by rw [← hh, Bd.state]; rfl
  have N0 := Fr.nil n0
  refine own_cast (P := own_End s (Q_sta Z x0 wR wG wB h0 n0) ({ frames := 0, cells := 0, slots := 0, locals := 0 } : Room).cells ({ frames := 0, cells := 0, slots := 0, locals := 0 } : Room).slots) (ef_sta m x0) ?_
  refine g_iloadN X0 hx hby d_sta_0 rfl (rfl : 0 + 1 = 1) ?_
  refine g_ldcI X0 hx hby hZ hown (hw _ (List.mem_of_getElem? (i := 40) rfl)) d_sta_1 (rfl : 1 + 2 = 3) ?_
  refine g_iand X0 hx hby d_sta_3 (rfl : 3 + 1 = 4) ?_
  refine g_iconst X0 hx hby (4 : Int32) d_sta_4 (by decide) (rfl : 4 + 1 = 5) ?_
  refine g_irem X0 hx hby d_sta_5 (by decide) (rfl : 5 + 1 = 6) ?_
  refine g_istoreN X0 hx hby #[.val (.int x0), .val (.int ((x0 &&& (2147483647 : Int32)) % (4 : Int32)))] d_sta_6 rfl (rfl : 6 + 1 = 7) ?_
  refine g_iloadN X0 hx hby d_sta_7 rfl (rfl : 7 + 1 = 8) ?_
  by_cases c36 : ((x0 &&& (2147483647 : Int32)) % (4 : Int32)) = (0 : Int32)
  · refine g_ifF X0 hx hby d_sta_8 ((if0 _ _).trans (teq c36).2) (rfl : 8 + 3 = 11) ?_
    obtain ⟨T37, X37, e37, st37⟩ := getS2 X0 hx hZ hown (host := "") (Or.inl (hw _ (List.mem_of_getElem? (i := 44) rfl))) Via.refl e0 hp0 (g := (mkF m 11 #[.val (.int x0), .val (.int ((x0 &&& (2147483647 : Int32)) % (4 : Int32)))] [])) rfl (hb hby d_sta_11)
    refine own_go st37 ?_
    show own_Got p e below _ T37 (mkF m 14 #[.val (.int x0), .val (.int ((x0 &&& (2147483647 : Int32)) % (4 : Int32)))] [(.ref wR)])
    refine own_retR X37 hx hby hlk hrt rfl d_sta_14 (by decide) (by decide) rfl ?_
    show Q_sta Z x0 wR wG wB h0 n0 _ T37.heap _
    exact ⟨(.ref wR), rfl, N0, e37, rfl⟩
  · refine g_ifT X0 hx hby d_sta_8 ((if0 _ _).trans (feq c36).2) (by decide) (pc' := 15) (by decide) ?_
    refine g_iloadN X0 hx hby d_sta_15 rfl (rfl : 15 + 1 = 16) ?_
    refine g_iconst X0 hx hby (1 : Int32) d_sta_16 (by decide) (rfl : 16 + 1 = 17) ?_
    by_cases c38 : ((x0 &&& (2147483647 : Int32)) % (4 : Int32)) = (1 : Int32)
    · refine g_icF X0 hx hby d_sta_17 (teq c38).2 (rfl : 17 + 3 = 20) ?_
      obtain ⟨T39, X39, e39, st39⟩ := getS2 X0 hx hZ hown (host := "") (Or.inl (hw _ (List.mem_of_getElem? (i := 41) rfl))) Via.refl e0 hp1 (g := (mkF m 20 #[.val (.int x0), .val (.int ((x0 &&& (2147483647 : Int32)) % (4 : Int32)))] [])) rfl (hb hby d_sta_20)
      refine own_go st39 ?_
      show own_Got p e below _ T39 (mkF m 23 #[.val (.int x0), .val (.int ((x0 &&& (2147483647 : Int32)) % (4 : Int32)))] [(.ref wG)])
      refine own_retR X39 hx hby hlk hrt rfl d_sta_23 (by decide) (by decide) rfl ?_
      show Q_sta Z x0 wR wG wB h0 n0 _ T39.heap _
      exact ⟨(.ref wG), rfl, N0, e39, rfl⟩
    · refine g_icT X0 hx hby d_sta_17 (feq c38).2 (by decide) (pc' := 24) (by decide) ?_
      refine g_iloadN X0 hx hby d_sta_24 rfl (rfl : 24 + 1 = 25) ?_
      refine g_iconst X0 hx hby (2 : Int32) d_sta_25 (by decide) (rfl : 25 + 1 = 26) ?_
      by_cases c40 : ((x0 &&& (2147483647 : Int32)) % (4 : Int32)) = (2 : Int32)
      · refine g_icF X0 hx hby d_sta_26 (teq c40).2 (rfl : 26 + 3 = 29) ?_
        obtain ⟨T41, X41, e41, st41⟩ := getS2 X0 hx hZ hown (host := "") (Or.inl (hw _ (List.mem_of_getElem? (i := 93) rfl))) Via.refl e0 hp2 (g := (mkF m 29 #[.val (.int x0), .val (.int ((x0 &&& (2147483647 : Int32)) % (4 : Int32)))] [])) rfl (hb hby d_sta_29)
        refine own_go st41 ?_
        show own_Got p e below _ T41 (mkF m 32 #[.val (.int x0), .val (.int ((x0 &&& (2147483647 : Int32)) % (4 : Int32)))] [(.ref wB)])
        refine own_retR X41 hx hby hlk hrt rfl d_sta_32 (by decide) (by decide) rfl ?_
        show Q_sta Z x0 wR wG wB h0 n0 _ T41.heap _
        exact ⟨(.ref wB), rfl, N0, e41, rfl⟩
      · refine g_icT X0 hx hby d_sta_26 (feq c40).2 (by decide) (pc' := 33) (by decide) ?_
        refine g_anull X0 hx hby d_sta_33 (rfl : 33 + 1 = 34) ?_
        refine own_retR X0 hx hby hlk hrt rfl d_sta_34 (by decide) (by decide) rfl ?_
        show Q_sta Z x0 wR wG wB h0 n0 _ s₁.heap _
        exact ⟨.null, rfl, N0, e0, rfl⟩
theorem d_rec_0 : decode jdk_30_method_1_code 0 = .ok (.aload_n 0, 1) := by decide +kernel
theorem d_rec_1 : decode jdk_30_method_1_code 1 = .ok (.invokespecial 1, 3) := by decide +kernel
theorem d_rec_4 : decode jdk_30_method_1_code 4 = .ok (.return_, 1) := by decide +kernel
theorem pn3 : plainName "java/lang/Record" = true := by first | (simp [plainName, overriddenIn]; done) | decide +kernel
theorem ef_rec (m : MethodId) (a0 : Addr) : entryFrame m #[(.ref a0)] 1 = mkF m 0 #[.val (.ref a0)] [] := by first | (simp [entryFrame, mkF, argsToLocals, Value.category]; done) | rfl
def Q_rec (Z : State) (a0 : Addr) (h0 : Heap) (n0 : Nat) (v : Option Value) (h : Heap) (L : List Loc) : Prop := v = none ∧ Fr n0 L ∧ h = h0
set_option maxRecDepth 65536 in
set_option maxHeartbeats 40000000 in
theorem rm_rec (l : Launch) (Z : State) (aT : Array Value) (hw : ∀ d ∈ tables_1, d.before aT Z = true) (ws : List Jvm.Cond) (a0 : Addr) (h0 : Heap) (n0 : Nat) (Z0 : n0 ≤ h0.size) :
    MetFree l (⟨"java/lang/Record", "<init>", "()V"⟩ : MethodName) (head1 (Jvm.Cond.code (⟨"java/lang/Record", "<init>", "()V"⟩ : MethodName) jdk_30_method_1_code 1 none :: ws) ({ frames := 1, cells := 0, slots := 0, locals := 12 } : Room)) (fun a U => a = #[(.ref a0)] ∧ Z.Warmed39 U.vm ∧ U.heap = h0) (fun _ _ _ _ _ => True) (fun _ U o U' => ∃ v L, o = .returned v ∧ Q_rec Z a0 h0 n0 v U'.heap L ∧ FrameEnd U o U' L ({ frames := 1, cells := 0, slots := 0, locals := 12 } : Room).cells ({ frames := 1, cells := 0, slots := 0, locals := 12 } : Room).slots) := by
  refine MetFree.of_bodySF (plainFor_of_name pn3) hisR ?_
  intro p e s m args below meth c s₁ Bd hml0 hP hK
  obtain ⟨rfl, hZ, hh⟩ := hP
  have hx := Bd.exec
  have hby := Bd.bytes
  have hml : c.maxLocals = 1 := hml0
  have hown : s.vm.findClass "java/lang/Record" = some m.cls := findClass_of_methodNamed Bd.named
  have hnm := (name_of_methodNamed Bd.named Bd.method).1
  have hlk := Bd.notSynchronized
  have hrt := Bd.returns
  have X0 : Stand p l e ({ frames := 1, cells := 0, slots := 0, locals := 12 } : Room) s m #[(.ref a0)] below meth c s₁ [] 0 0 := Stand.of_body Bd
  have e0 : s₁.heap = h0 := by rw [← hh, Bd.state]; rfl
  have N0 := Fr.nil n0
  refine own_cast (P := own_End s (Q_rec Z a0 h0 n0) ({ frames := 1, cells := 0, slots := 0, locals := 12 } : Room).cells ({ frames := 1, cells := 0, slots := 0, locals := 12 } : Room).slots) (ef_rec m a0) ?_
  refine g_aloadN X0 hx hby d_rec_0 rfl rfl (rfl : 0 + 1 = 1) ?_
  obtain ⟨T42, X42, e42, st42⟩ := initO X0 hx hZ hown (hw _ (List.mem_of_getElem? (i := 57) rfl)) (hw _ (List.mem_of_getElem? (i := 19) rfl)) (hw _ (List.mem_of_getElem? (i := 20) rfl)) e0 (g := (mkF m 1 #[.val (.ref a0)] [(.ref a0)])) rfl (by rw [hml]; rfl) rfl (hb hby d_rec_1) (by decide) (W := 0) (by show 2 * 0 + _ ≤ _; exact Nat.le_of_eq rfl) (by decide)
  refine own_go st42 ?_
  show own_Got p e below _ T42 (mkF m 4 #[.val (.ref a0)] [])
  refine own_retV X42 hx hby hlk hrt d_rec_4 (by decide) (by decide) ?_
  show Q_rec Z a0 h0 n0 _ T42.heap _
  exact ⟨rfl, N0, e42⟩
theorem d_ini_0 : decode prog_54_method_1_code 0 = .ok (.aload_n 0, 1) := by decide +kernel
theorem d_ini_1 : decode prog_54_method_1_code 1 = .ok (.invokespecial 1, 3) := by decide +kernel
theorem d_ini_4 : decode prog_54_method_1_code 4 = .ok (.aload_n 0, 1) := by decide +kernel
theorem d_ini_5 : decode prog_54_method_1_code 5 = .ok (.aload_n 1, 1) := by decide +kernel
theorem d_ini_6 : decode prog_54_method_1_code 6 = .ok (.putfield 7, 3) := by decide +kernel
theorem d_ini_9 : decode prog_54_method_1_code 9 = .ok (.aload_n 0, 1) := by decide +kernel
theorem d_ini_10 : decode prog_54_method_1_code 10 = .ok (.aload_n 2, 1) := by decide +kernel
theorem d_ini_11 : decode prog_54_method_1_code 11 = .ok (.putfield 13, 3) := by decide +kernel
theorem d_ini_14 : decode prog_54_method_1_code 14 = .ok (.aload_n 0, 1) := by decide +kernel
theorem d_ini_15 : decode prog_54_method_1_code 15 = .ok (.aload_n 3, 1) := by decide +kernel
theorem d_ini_16 : decode prog_54_method_1_code 16 = .ok (.putfield 17, 3) := by decide +kernel
theorem d_ini_19 : decode prog_54_method_1_code 19 = .ok (.aload_n 0, 1) := by decide +kernel
theorem d_ini_20 : decode prog_54_method_1_code 20 = .ok (.aload 4, 2) := by decide +kernel
theorem d_ini_22 : decode prog_54_method_1_code 22 = .ok (.putfield 21, 3) := by decide +kernel
theorem d_ini_25 : decode prog_54_method_1_code 25 = .ok (.return_, 1) := by decide +kernel
theorem pn4 : plainName "com/example/farshard/farshard/store/Link" = true := by first | (simp [plainName, overriddenIn]; done) | decide +kernel
theorem pd4 : parseMethodDescriptor "()V" = some ⟨[], none⟩ := by decide +kernel
theorem ef_ini (m : MethodId) (a0 : Addr) (r1 : Value) (r2 : Value) (r4 : Value) (qr1 : r1.isRef = true) (qr2 : r2.isRef = true) (qr4 : r4.isRef = true) : entryFrame m #[(.ref a0), r1, r2, .null, r4] 5 = mkF m 0 #[.val (.ref a0), .val r1, .val r2, .val .null, .val r4] [] := by
  rcases ref_cases qr1 with h | ⟨_, h⟩ <;> subst h
  all_goals (rcases ref_cases qr2 with h | ⟨_, h⟩ <;> subst h)
  all_goals (rcases ref_cases qr4 with h | ⟨_, h⟩ <;> subst h)
  all_goals rfl
def Q_ini (Z : State) (a0 : Addr) (r1 : Value) (r2 : Value) (r4 : Value) (h0 : Heap) (n0 : Nat) (v : Option Value) (h : Heap) (L : List Loc) : Prop := v = none ∧ Fr n0 L ∧ Keep h0 h [a0] ∧ Exa Z h a0 "com/example/farshard/farshard/store/Link" ∧ Fld Z h a0 "com/example/farshard/farshard/store/Link" "role" "Lcom/example/farshard/farshard/store/Link$Role;" r1 ∧ Fld Z h a0 "com/example/farshard/farshard/store/Link" "remote" "Ljava/lang/String;" r2 ∧ Fld Z h a0 "com/example/farshard/farshard/store/Link" "mode" "Lcom/example/farshard/farshard/store/Link$Mode;" .null ∧ Fld Z h a0 "com/example/farshard/farshard/store/Link" "state" "Lcom/example/farshard/farshard/store/Link$State;" r4
set_option maxRecDepth 65536 in
set_option maxHeartbeats 40000000 in
theorem rm_ini (l : Launch) (Z : State) (aT : Array Value) (hw : ∀ d ∈ tables_1, d.before aT Z = true) (ws : List Jvm.Cond) (a0 : Addr) (r1 : Value) (r2 : Value) (r4 : Value) (h0 : Heap) (n0 : Nat) (Z0 : n0 ≤ h0.size) (hp0 : Exa Z h0 a0 "com/example/farshard/farshard/store/Link") (hp1 : Fld Z h0 a0 "com/example/farshard/farshard/store/Link" "role" "Lcom/example/farshard/farshard/store/Link$Role;" .null) (hp2 : Fld Z h0 a0 "com/example/farshard/farshard/store/Link" "remote" "Ljava/lang/String;" .null) (hp3 : Fld Z h0 a0 "com/example/farshard/farshard/store/Link" "mode" "Lcom/example/farshard/farshard/store/Link$Mode;" .null) (hp4 : Fld Z h0 a0 "com/example/farshard/farshard/store/Link" "state" "Lcom/example/farshard/farshard/store/Link$State;" .null) (hp5 : n0 ≤ a0) (hr1 : r1.isRef = true) (hr2 : r2.isRef = true) (hr4 : r4.isRef = true) :
    MetFree l (⟨"com/example/farshard/farshard/store/Link", "<init>", "(Lcom/example/farshard/farshard/store/Link$Role;Ljava/lang/String;Lcom/example/farshard/farshard/store/Link$Mode;Lcom/example/farshard/farshard/store/Link$State;)V"⟩ : MethodName) (head1 (Jvm.Cond.code (⟨"com/example/farshard/farshard/store/Link", "<init>", "(Lcom/example/farshard/farshard/store/Link$Role;Ljava/lang/String;Lcom/example/farshard/farshard/store/Link$Mode;Lcom/example/farshard/farshard/store/Link$State;)V"⟩ : MethodName) prog_54_method_1_code 5 none :: ws) ({ frames := 2, cells := 0, slots := 0, locals := 24 } : Room)) (fun a U => a = #[(.ref a0), r1, r2, .null, r4] ∧ Z.Warmed39 U.vm ∧ U.heap = h0) (fun _ _ _ _ _ => True) (fun _ U o U' => ∃ v L, o = .returned v ∧ Q_ini Z a0 r1 r2 r4 h0 n0 v U'.heap L ∧ FrameEnd U o U' L ({ frames := 2, cells := 0, slots := 0, locals := 24 } : Room).cells ({ frames := 2, cells := 0, slots := 0, locals := 24 } : Room).slots) := by
  refine MetFree.of_bodySF (plainFor_of_name pn4) hisR ?_
  intro p e s m args below meth c s₁ Bd hml0 hP hK
  obtain ⟨rfl, hZ, hh⟩ := hP
  have hx := Bd.exec
  have hby := Bd.bytes
  have hml : c.maxLocals = 5 := hml0
  have hown : s.vm.findClass "com/example/farshard/farshard/store/Link" = some m.cls := findClass_of_methodNamed Bd.named
  have hnm := (name_of_methodNamed Bd.named Bd.method).1
  have hlk := Bd.notSynchronized
  have hrt := Bd.returns
  have X0 : Stand p l e ({ frames := 2, cells := 0, slots := 0, locals := 24 } : Room) s m #[(.ref a0), r1, r2, .null, r4] below meth c s₁ [] 0 0 := Stand.of_body Bd
  have e0 : s₁.heap = h0 := by rw [← hh, Bd.state]; rfl
  have N0 := Fr.nil n0
  refine own_cast (P := own_End s (Q_ini Z a0 r1 r2 r4 h0 n0) ({ frames := 2, cells := 0, slots := 0, locals := 24 } : Room).cells ({ frames := 2, cells := 0, slots := 0, locals := 24 } : Room).slots) (ef_ini m a0 r1 r2 r4 hr1 hr2 hr4) ?_
  refine g_aloadN X0 hx hby d_ini_0 rfl rfl (rfl : 0 + 1 = 1) ?_
  obtain ⟨_, _, ⟨T43, L43, k43, n43⟩, -, X43, ⟨Lc43, hQ43, l43, y43, z43⟩, st43⟩ := X0.specialBack hx (y := (⟨"java/lang/Record", "<init>", "()V"⟩ : MethodName)) rfl hown (mvT hZ (hw _ (List.mem_of_getElem? (i := 52) rfl))) (mvT hZ (hw _ (List.mem_of_getElem? (i := 53) rfl))) (mvT hZ (hw _ (List.mem_of_getElem? (i := 56) rfl))) (by decide) (backOf (W := 0) (rm_rec l Z aT hw [] a0 h0 n0 Z0) hZ (hw _ (List.mem_of_getElem? (i := 56) rfl)) (hw _ (List.mem_of_getElem? (i := 55) rfl)) (by decide) (by decide)) (g := (mkF m 1 #[.val (.ref a0), .val r1, .val r2, .val .null, .val r4] [(.ref a0)])) rfl (by rw [hml]; rfl) (Steps.refl _) (a := a0) (argsL := []) (rest := []) (lenOf pd4 rfl) rfl (by show 2 * 0 + _ ≤ _; exact Nat.le_of_eq rfl) (hb hby d_ini_1) (fun _ _ => ⟨rfl, e0, (by decide : 0 + 0 ≤ _), (by decide : 0 + 0 ≤ _)⟩)
  dsimp only [Pt.U, Pt.locs, Pt.cells, Pt.slots] at X43 l43 y43 z43 st43 hQ43
  subst l43 y43 z43
  obtain ⟨rfl, N43q, eq43⟩ := hQ43
  have N43 := Fr.app N0 N43q
  refine own_tr st43 ?_
  show own_Got p e below _ T43 (mkF m 4 #[.val (.ref a0), .val r1, .val r2, .val .null, .val r4] [])
  refine g_aloadN X43 hx hby d_ini_4 rfl rfl (rfl : 4 + 1 = 5) ?_
  refine g_aloadN X43 hx hby d_ini_5 rfl hr1 (rfl : 5 + 1 = 6) ?_
  obtain ⟨T44, h44, X44, e44, W44, st44⟩ := putF X43 hx hZ hown (host := "") (Or.inl (hw _ (List.mem_of_getElem? (i := 58) rfl))) Via.refl eq43 hp1 hp0 (Or.inr ⟨(hw _ (List.mem_of_getElem? (i := 59) rfl)), rfl, hnm⟩) (hw _ (List.mem_of_getElem? (i := 47) rfl)) (ty := (.object "com/example/farshard/farshard/store/Link$Role")) (by decide) (own_narR rfl hr1) (own_fitR rfl hr1) (g := (mkF m 6 #[.val (.ref a0), .val r1, .val r2, .val .null, .val r4] [r1, (.ref a0)])) rfl rfl (hb hby d_ini_6)
  have Z44 : n0 ≤ h44.size := Nat.le_trans Z0 (Keep.of_wr W44).1
  have N44 := Fr.snoc X44 N43 hp5
  have K44 : Keep h0 h44 [a0] := (Keep.refl h0 [a0]).wr W44 (Or.inl (List.mem_of_getElem? (i := 0) rfl))
  have f44 : Fld Z h44 a0 "com/example/farshard/farshard/store/Link" "role" "Lcom/example/farshard/farshard/store/Link$Role;" r1 := Fld.same W44 hp1
  refine own_go st44 ?_
  show own_Got p e below _ T44 (mkF m 9 #[.val (.ref a0), .val r1, .val r2, .val .null, .val r4] [])
  refine g_aloadN X44 hx hby d_ini_9 rfl rfl (rfl : 9 + 1 = 10) ?_
  refine g_aloadN X44 hx hby d_ini_10 rfl hr2 (rfl : 10 + 1 = 11) ?_
  have f45 : Fld Z h44 a0 "com/example/farshard/farshard/store/Link" "remote" "Ljava/lang/String;" .null := (Fld.other W44 hp2 (Or.inr (slot_ne (Or.inr (hw _ (List.mem_of_getElem? (i := 61) rfl))) (Or.inr (hw _ (List.mem_of_getElem? (i := 59) rfl))) (by decide) (t := (.object "java/lang/String")) (t' := (.object "com/example/farshard/farshard/store/Link$Role")) (by decide) (by decide))))
  have f46 : Exa Z h44 a0 "com/example/farshard/farshard/store/Link" := (Exa.wr W44 hp0)
  obtain ⟨T47, h47, X47, e47, W47, st47⟩ := putF X44 hx hZ hown (host := "") (Or.inl (hw _ (List.mem_of_getElem? (i := 60) rfl))) Via.refl e44 f45 f46 (Or.inr ⟨(hw _ (List.mem_of_getElem? (i := 61) rfl)), rfl, hnm⟩) (hw _ (List.mem_of_getElem? (i := 47) rfl)) (ty := (.object "java/lang/String")) (by decide) (own_narR rfl hr2) (own_fitR rfl hr2) (g := (mkF m 11 #[.val (.ref a0), .val r1, .val r2, .val .null, .val r4] [r2, (.ref a0)])) rfl rfl (hb hby d_ini_11)
  have Z47 : n0 ≤ h47.size := Nat.le_trans Z44 (Keep.of_wr W47).1
  have N47 := Fr.snoc X47 N44 hp5
  have K47 : Keep h0 h47 [a0] := K44.wr W47 (Or.inl (List.mem_of_getElem? (i := 0) rfl))
  have f47 : Fld Z h47 a0 "com/example/farshard/farshard/store/Link" "remote" "Ljava/lang/String;" r2 := Fld.same W47 f45
  refine own_go st47 ?_
  show own_Got p e below _ T47 (mkF m 14 #[.val (.ref a0), .val r1, .val r2, .val .null, .val r4] [])
  refine g_aloadN X47 hx hby d_ini_14 rfl rfl (rfl : 14 + 1 = 15) ?_
  refine g_aloadN X47 hx hby d_ini_15 rfl rfl (rfl : 15 + 1 = 16) ?_
  have f48 : Fld Z h47 a0 "com/example/farshard/farshard/store/Link" "mode" "Lcom/example/farshard/farshard/store/Link$Mode;" .null := (Fld.other W47 (Fld.other W44 hp3 (Or.inr (slot_ne (Or.inr (hw _ (List.mem_of_getElem? (i := 63) rfl))) (Or.inr (hw _ (List.mem_of_getElem? (i := 59) rfl))) (by decide) (t := (.object "com/example/farshard/farshard/store/Link$Mode")) (t' := (.object "com/example/farshard/farshard/store/Link$Role")) (by decide) (by decide)))) (Or.inr (slot_ne (Or.inr (hw _ (List.mem_of_getElem? (i := 63) rfl))) (Or.inr (hw _ (List.mem_of_getElem? (i := 61) rfl))) (by decide) (t := (.object "com/example/farshard/farshard/store/Link$Mode")) (t' := (.object "java/lang/String")) (by decide) (by decide))))
  have f49 : Exa Z h47 a0 "com/example/farshard/farshard/store/Link" := (Exa.wr W47 f46)
  obtain ⟨T50, h50, X50, e50, W50, st50⟩ := putF X47 hx hZ hown (host := "") (Or.inl (hw _ (List.mem_of_getElem? (i := 62) rfl))) Via.refl e47 f48 f49 (Or.inr ⟨(hw _ (List.mem_of_getElem? (i := 63) rfl)), rfl, hnm⟩) (hw _ (List.mem_of_getElem? (i := 47) rfl)) (ty := (.object "com/example/farshard/farshard/store/Link$Mode")) (by decide) rfl rfl (g := (mkF m 16 #[.val (.ref a0), .val r1, .val r2, .val .null, .val r4] [.null, (.ref a0)])) rfl rfl (hb hby d_ini_16)
  have Z50 : n0 ≤ h50.size := Nat.le_trans Z47 (Keep.of_wr W50).1
  have N50 := Fr.snoc X50 N47 hp5
  have K50 : Keep h0 h50 [a0] := K47.wr W50 (Or.inl (List.mem_of_getElem? (i := 0) rfl))
  have f50 : Fld Z h50 a0 "com/example/farshard/farshard/store/Link" "mode" "Lcom/example/farshard/farshard/store/Link$Mode;" .null := Fld.same W50 f48
  refine own_go st50 ?_
  show own_Got p e below _ T50 (mkF m 19 #[.val (.ref a0), .val r1, .val r2, .val .null, .val r4] [])
  refine g_aloadN X50 hx hby d_ini_19 rfl rfl (rfl : 19 + 1 = 20) ?_
  refine g_aload X50 hx hby d_ini_20 rfl hr4 (rfl : 20 + 2 = 22) ?_
  have f51 : Fld Z h50 a0 "com/example/farshard/farshard/store/Link" "state" "Lcom/example/farshard/farshard/store/Link$State;" .null := (Fld.other W50 (Fld.other W47 (Fld.other W44 hp4 (Or.inr (slot_ne (Or.inr (hw _ (List.mem_of_getElem? (i := 65) rfl))) (Or.inr (hw _ (List.mem_of_getElem? (i := 59) rfl))) (by decide) (t := (.object "com/example/farshard/farshard/store/Link$State")) (t' := (.object "com/example/farshard/farshard/store/Link$Role")) (by decide) (by decide)))) (Or.inr (slot_ne (Or.inr (hw _ (List.mem_of_getElem? (i := 65) rfl))) (Or.inr (hw _ (List.mem_of_getElem? (i := 61) rfl))) (by decide) (t := (.object "com/example/farshard/farshard/store/Link$State")) (t' := (.object "java/lang/String")) (by decide) (by decide)))) (Or.inr (slot_ne (Or.inr (hw _ (List.mem_of_getElem? (i := 65) rfl))) (Or.inr (hw _ (List.mem_of_getElem? (i := 63) rfl))) (by decide) (t := (.object "com/example/farshard/farshard/store/Link$State")) (t' := (.object "com/example/farshard/farshard/store/Link$Mode")) (by decide) (by decide))))
  have f52 : Exa Z h50 a0 "com/example/farshard/farshard/store/Link" := (Exa.wr W50 f49)
  obtain ⟨T53, h53, X53, e53, W53, st53⟩ := putF X50 hx hZ hown (host := "") (Or.inl (hw _ (List.mem_of_getElem? (i := 64) rfl))) Via.refl e50 f51 f52 (Or.inr ⟨(hw _ (List.mem_of_getElem? (i := 65) rfl)), rfl, hnm⟩) (hw _ (List.mem_of_getElem? (i := 47) rfl)) (ty := (.object "com/example/farshard/farshard/store/Link$State")) (by decide) (own_narR rfl hr4) (own_fitR rfl hr4) (g := (mkF m 22 #[.val (.ref a0), .val r1, .val r2, .val .null, .val r4] [r4, (.ref a0)])) rfl rfl (hb hby d_ini_22)
  have Z53 : n0 ≤ h53.size := Nat.le_trans Z50 (Keep.of_wr W53).1
  have N53 := Fr.snoc X53 N50 hp5
  have K53 : Keep h0 h53 [a0] := K50.wr W53 (Or.inl (List.mem_of_getElem? (i := 0) rfl))
  have f53 : Fld Z h53 a0 "com/example/farshard/farshard/store/Link" "state" "Lcom/example/farshard/farshard/store/Link$State;" r4 := Fld.same W53 f51
  refine own_go st53 ?_
  show own_Got p e below _ T53 (mkF m 25 #[.val (.ref a0), .val r1, .val r2, .val .null, .val r4] [])
  have f54 : Exa Z h53 a0 "com/example/farshard/farshard/store/Link" := (Exa.wr W53 f52)
  have f55 : Fld Z h53 a0 "com/example/farshard/farshard/store/Link" "role" "Lcom/example/farshard/farshard/store/Link$Role;" r1 := (Fld.other W53 (Fld.other W50 (Fld.other W47 f44 (Or.inr (slot_ne (Or.inr (hw _ (List.mem_of_getElem? (i := 59) rfl))) (Or.inr (hw _ (List.mem_of_getElem? (i := 61) rfl))) (by decide) (t := (.object "com/example/farshard/farshard/store/Link$Role")) (t' := (.object "java/lang/String")) (by decide) (by decide)))) (Or.inr (slot_ne (Or.inr (hw _ (List.mem_of_getElem? (i := 59) rfl))) (Or.inr (hw _ (List.mem_of_getElem? (i := 63) rfl))) (by decide) (t := (.object "com/example/farshard/farshard/store/Link$Role")) (t' := (.object "com/example/farshard/farshard/store/Link$Mode")) (by decide) (by decide)))) (Or.inr (slot_ne (Or.inr (hw _ (List.mem_of_getElem? (i := 59) rfl))) (Or.inr (hw _ (List.mem_of_getElem? (i := 65) rfl))) (by decide) (t := (.object "com/example/farshard/farshard/store/Link$Role")) (t' := (.object "com/example/farshard/farshard/store/Link$State")) (by decide) (by decide))))
  have f56 : Fld Z h53 a0 "com/example/farshard/farshard/store/Link" "remote" "Ljava/lang/String;" r2 := (Fld.other W53 (Fld.other W50 f47 (Or.inr (slot_ne (Or.inr (hw _ (List.mem_of_getElem? (i := 61) rfl))) (Or.inr (hw _ (List.mem_of_getElem? (i := 63) rfl))) (by decide) (t := (.object "java/lang/String")) (t' := (.object "com/example/farshard/farshard/store/Link$Mode")) (by decide) (by decide)))) (Or.inr (slot_ne (Or.inr (hw _ (List.mem_of_getElem? (i := 61) rfl))) (Or.inr (hw _ (List.mem_of_getElem? (i := 65) rfl))) (by decide) (t := (.object "java/lang/String")) (t' := (.object "com/example/farshard/farshard/store/Link$State")) (by decide) (by decide))))
  have f57 : Fld Z h53 a0 "com/example/farshard/farshard/store/Link" "mode" "Lcom/example/farshard/farshard/store/Link$Mode;" .null := (Fld.other W53 f50 (Or.inr (slot_ne (Or.inr (hw _ (List.mem_of_getElem? (i := 63) rfl))) (Or.inr (hw _ (List.mem_of_getElem? (i := 65) rfl))) (by decide) (t := (.object "com/example/farshard/farshard/store/Link$Mode")) (t' := (.object "com/example/farshard/farshard/store/Link$State")) (by decide) (by decide))))
  refine own_retV X53 hx hby hlk hrt d_ini_25 (by decide) (by decide) ?_
  show Q_ini Z a0 r1 r2 r4 h0 n0 _ T53.heap _
  rw [e53]
  exact ⟨rfl, N53, K53, f54, f55, f56, f57, f53⟩
theorem d_lin_0 : decode prog_54_method_2_code 0 = .ok (.new 8, 3) := by decide +kernel
theorem d_lin_3 : decode prog_54_method_2_code 3 = .ok (.dup, 1) := by decide +kernel
theorem d_lin_4 : decode prog_54_method_2_code 4 = .ok (.aload_n 0, 1) := by decide +kernel
theorem d_lin_5 : decode prog_54_method_2_code 5 = .ok (.getfield 7, 3) := by decide +kernel
theorem d_lin_8 : decode prog_54_method_2_code 8 = .ok (.aload_n 0, 1) := by decide +kernel
theorem d_lin_9 : decode prog_54_method_2_code 9 = .ok (.getfield 13, 3) := by decide +kernel
theorem d_lin_12 : decode prog_54_method_2_code 12 = .ok (.aload_n 0, 1) := by decide +kernel
theorem d_lin_13 : decode prog_54_method_2_code 13 = .ok (.getfield 17, 3) := by decide +kernel
theorem d_lin_16 : decode prog_54_method_2_code 16 = .ok (.aload_n 1, 1) := by decide +kernel
theorem d_lin_17 : decode prog_54_method_2_code 17 = .ok (.invokespecial 25, 3) := by decide +kernel
theorem d_lin_20 : decode prog_54_method_2_code 20 = .ok (.areturn, 1) := by decide +kernel
theorem pd5 : parseMethodDescriptor "(Lcom/example/farshard/farshard/store/Link$Role;Ljava/lang/String;Lcom/example/farshard/farshard/store/Link$Mode;Lcom/example/farshard/farshard/store/Link$State;)V" = some ⟨[(.object "com/example/farshard/farshard/store/Link$Role"), (.object "java/lang/String"), (.object "com/example/farshard/farshard/store/Link$Mode"), (.object "com/example/farshard/farshard/store/Link$State")], none⟩ := by decide +kernel
theorem ef_lin (m : MethodId) (a0 : Addr) (r1 : Value) (qr1 : r1.isRef = true) : entryFrame m #[(.ref a0), r1] 2 = mkF m 0 #[.val (.ref a0), .val r1] [] := by
  rcases ref_cases qr1 with h | ⟨_, h⟩ <;> subst h
  all_goals rfl
def Q_lin (Z : State) (a0 : Addr) (r1 : Value) (u1 : Value) (u2 : Value) (h0 : Heap) (n0 : Nat) (v : Option Value) (h : Heap) (L : List Loc) : Prop := ∃ (ob : Addr), v = some (.ref ob) ∧ Fr n0 L ∧ Keep h0 h [] ∧ h0.size ≤ ob ∧ Exa Z h ob "com/example/farshard/farshard/store/Link" ∧ Fld Z h ob "com/example/farshard/farshard/store/Link" "role" "Lcom/example/farshard/farshard/store/Link$Role;" u1 ∧ Fld Z h ob "com/example/farshard/farshard/store/Link" "remote" "Ljava/lang/String;" u2 ∧ Fld Z h ob "com/example/farshard/farshard/store/Link" "mode" "Lcom/example/farshard/farshard/store/Link$Mode;" .null ∧ Fld Z h ob "com/example/farshard/farshard/store/Link" "state" "Lcom/example/farshard/farshard/store/Link$State;" r1
set_option maxRecDepth 65536 in
set_option maxHeartbeats 40000000 in
theorem rm_lin (l : Launch) (Z : State) (aT : Array Value) (hw : ∀ d ∈ tables_1, d.before aT Z = true) (ws : List Jvm.Cond) (a0 : Addr) (r1 : Value) (u1 : Value) (u2 : Value) (h0 : Heap) (n0 : Nat) (Z0 : n0 ≤ h0.size) (hp0 : Fld Z h0 a0 "com/example/farshard/farshard/store/Link" "role" "Lcom/example/farshard/farshard/store/Link$Role;" u1) (hp1 : Fld Z h0 a0 "com/example/farshard/farshard/store/Link" "remote" "Ljava/lang/String;" u2) (hp2 : Fld Z h0 a0 "com/example/farshard/farshard/store/Link" "mode" "Lcom/example/farshard/farshard/store/Link$Mode;" .null) (hr1 : r1.isRef = true) (hu1 : u1.isRef = true) (hu2 : u2.isRef = true) :
    MetFree l (⟨"com/example/farshard/farshard/store/Link", "in", "(Lcom/example/farshard/farshard/store/Link$State;)Lcom/example/farshard/farshard/store/Link;"⟩ : MethodName) (head1 (Jvm.Cond.code (⟨"com/example/farshard/farshard/store/Link", "in", "(Lcom/example/farshard/farshard/store/Link$State;)Lcom/example/farshard/farshard/store/Link;"⟩ : MethodName) prog_54_method_2_code 2 (some (.object "com/example/farshard/farshard/store/Link")) :: ws) ({ frames := 3, cells := 1, slots := 4, locals := 41 } : Room)) (fun a U => a = #[(.ref a0), r1] ∧ Z.Warmed39 U.vm ∧ U.heap = h0) (fun _ _ _ _ _ => True) (fun _ U o U' => ∃ v L, o = .returned v ∧ Q_lin Z a0 r1 u1 u2 h0 n0 v U'.heap L ∧ FrameEnd U o U' L ({ frames := 3, cells := 1, slots := 4, locals := 41 } : Room).cells ({ frames := 3, cells := 1, slots := 4, locals := 41 } : Room).slots) := by
  refine MetFree.of_bodySF (plainFor_of_name pn4) hisR ?_
  intro p e s m args below meth c s₁ Bd hml0 hP hK
  obtain ⟨rfl, hZ, hh⟩ := hP
  have hx := Bd.exec
  have hby := Bd.bytes
  have hml : c.maxLocals = 2 := hml0
  have hown : s.vm.findClass "com/example/farshard/farshard/store/Link" = some m.cls := findClass_of_methodNamed Bd.named
  have hnm := (name_of_methodNamed Bd.named Bd.method).1
  have hlk := Bd.notSynchronized
  have hrt := Bd.returns
  have X0 : Stand p l e ({ frames := 3, cells := 1, slots := 4, locals := 41 } : Room) s m #[(.ref a0), r1] below meth c s₁ [] 0 0 := Stand.of_body Bd
  have e0 : s₁.heap = h0 := by rw [← hh, Bd.state]; rfl
  have N0 := Fr.nil n0
  refine own_cast (P := own_End s (Q_lin Z a0 r1 u1 u2 h0 n0) ({ frames := 3, cells := 1, slots := 4, locals := 41 } : Room).cells ({ frames := 3, cells := 1, slots := 4, locals := 41 } : Room).slots) (ef_lin m a0 r1 hr1) ?_
  obtain ⟨T58, h58, X58, e58, E58, A58, D58, -, st58⟩ := newO X0 hx hZ hown (hw _ (List.mem_of_getElem? (i := 71) rfl)) (hw _ (List.mem_of_getElem? (i := 47) rfl)) (hw _ (List.mem_of_getElem? (i := 48) rfl)) e0 (g := (mkF m 0 #[.val (.ref a0), .val r1] [])) rfl (hb hby d_lin_0) (by decide) (by decide)
  obtain ⟨b58, g58⟩ : ∃ z, z = h0.size := ⟨_, rfl⟩
  rw [← g58] at A58 D58 st58
  have ne59 : a0 ≠ b58 := Nat.ne_of_lt (Nat.lt_of_lt_of_le (hp0).lt (Nat.le_of_eq g58.symm))
  have Z58 : n0 ≤ h58.size := Nat.le_trans Z0 E58.1
  have K58 : Keep h0 h58 [] := (Keep.refl h0 []).ext E58
  have ge58 : n0 ≤ b58 := Nat.le_trans Z0 (Nat.le_of_eq g58.symm)
  have sz58 : h0.size ≤ b58 := Nat.le_trans (Keep.refl h0 []).1 (Nat.le_of_eq g58.symm)
  have f60 : Fld Z h58 b58 "com/example/farshard/farshard/store/Link" "role" "Lcom/example/farshard/farshard/store/Link$Role;" .null := D58 (Or.inr (hw _ (List.mem_of_getElem? (i := 59) rfl))) (ty := (.object "com/example/farshard/farshard/store/Link$Role")) (by decide)
  have f61 : Fld Z h58 b58 "com/example/farshard/farshard/store/Link" "remote" "Ljava/lang/String;" .null := D58 (Or.inr (hw _ (List.mem_of_getElem? (i := 61) rfl))) (ty := (.object "java/lang/String")) (by decide)
  have f62 : Fld Z h58 b58 "com/example/farshard/farshard/store/Link" "mode" "Lcom/example/farshard/farshard/store/Link$Mode;" .null := D58 (Or.inr (hw _ (List.mem_of_getElem? (i := 63) rfl))) (ty := (.object "com/example/farshard/farshard/store/Link$Mode")) (by decide)
  have f63 : Fld Z h58 b58 "com/example/farshard/farshard/store/Link" "state" "Lcom/example/farshard/farshard/store/Link$State;" .null := D58 (Or.inr (hw _ (List.mem_of_getElem? (i := 65) rfl))) (ty := (.object "com/example/farshard/farshard/store/Link$State")) (by decide)
  refine own_go st58 ?_
  show own_Got p e below _ T58 (mkF m 3 #[.val (.ref a0), .val r1] [(.ref b58)])
  refine g_dup X58 hx hby d_lin_3 rfl (rfl : 3 + 1 = 4) ?_
  refine g_aloadN X58 hx hby d_lin_4 rfl rfl (rfl : 4 + 1 = 5) ?_
  have f64 : Fld Z h58 a0 "com/example/farshard/farshard/store/Link" "role" "Lcom/example/farshard/farshard/store/Link$Role;" u1 := (Fld.ext E58 hp0)
  obtain ⟨T65, X65, e65, st65⟩ := getF X58 hx hZ hown (host := "") (Or.inl (hw _ (List.mem_of_getElem? (i := 58) rfl))) Via.refl e58 f64 (g := (mkF m 5 #[.val (.ref a0), .val r1] [(.ref a0), (.ref b58), (.ref b58)])) rfl rfl (hb hby d_lin_5)
  refine own_go st65 ?_
  show own_Got p e below _ T65 (mkF m 8 #[.val (.ref a0), .val r1] [u1, (.ref b58), (.ref b58)])
  refine g_aloadN X65 hx hby d_lin_8 rfl rfl (rfl : 8 + 1 = 9) ?_
  have f66 : Fld Z h58 a0 "com/example/farshard/farshard/store/Link" "remote" "Ljava/lang/String;" u2 := (Fld.ext E58 hp1)
  obtain ⟨T67, X67, e67, st67⟩ := getF X65 hx hZ hown (host := "") (Or.inl (hw _ (List.mem_of_getElem? (i := 60) rfl))) Via.refl e65 f66 (g := (mkF m 9 #[.val (.ref a0), .val r1] [(.ref a0), u1, (.ref b58), (.ref b58)])) rfl rfl (hb hby d_lin_9)
  refine own_go st67 ?_
  show own_Got p e below _ T67 (mkF m 12 #[.val (.ref a0), .val r1] [u2, u1, (.ref b58), (.ref b58)])
  refine g_aloadN X67 hx hby d_lin_12 rfl rfl (rfl : 12 + 1 = 13) ?_
  have f68 : Fld Z h58 a0 "com/example/farshard/farshard/store/Link" "mode" "Lcom/example/farshard/farshard/store/Link$Mode;" .null := (Fld.ext E58 hp2)
  obtain ⟨T69, X69, e69, st69⟩ := getF X67 hx hZ hown (host := "") (Or.inl (hw _ (List.mem_of_getElem? (i := 62) rfl))) Via.refl e67 f68 (g := (mkF m 13 #[.val (.ref a0), .val r1] [(.ref a0), u2, u1, (.ref b58), (.ref b58)])) rfl rfl (hb hby d_lin_13)
  refine own_go st69 ?_
  show own_Got p e below _ T69 (mkF m 16 #[.val (.ref a0), .val r1] [.null, u2, u1, (.ref b58), (.ref b58)])
  refine g_aloadN X69 hx hby d_lin_16 rfl hr1 (rfl : 16 + 1 = 17) ?_
  obtain ⟨_, _, ⟨T70, L70, k70, n70⟩, -, X70, ⟨Lc70, hQ70, l70, y70, z70⟩, st70⟩ := X69.specialBack hx (y := (⟨"com/example/farshard/farshard/store/Link", "<init>", "(Lcom/example/farshard/farshard/store/Link$Role;Ljava/lang/String;Lcom/example/farshard/farshard/store/Link$Mode;Lcom/example/farshard/farshard/store/Link$State;)V"⟩ : MethodName)) rfl hown (mvT hZ (hw _ (List.mem_of_getElem? (i := 72) rfl))) (mvT hZ (hw _ (List.mem_of_getElem? (i := 50) rfl))) (mvT hZ (hw _ (List.mem_of_getElem? (i := 51) rfl))) (by decide) (backOf (W := 1) (rm_ini l Z aT hw [] b58 u1 u2 r1 h58 n0 Z58 A58 f60 f61 f62 f63 ge58 hu1 hu2 hr1) hZ (hw _ (List.mem_of_getElem? (i := 51) rfl)) (hw _ (List.mem_of_getElem? (i := 48) rfl)) (by decide) (by decide)) (g := (mkF m 17 #[.val (.ref a0), .val r1] [r1, .null, u2, u1, (.ref b58), (.ref b58)])) rfl (by rw [hml]; rfl) (Steps.refl _) (a := b58) (argsL := [u1, u2, .null, r1]) (rest := [(.ref b58)]) (lenOf pd5 rfl) rfl (by show 2 * 0 + _ ≤ _; exact Nat.le_of_eq rfl) (hb hby d_lin_17) (fun _ _ => ⟨rfl, e69, (by decide : 1 + 0 ≤ _), (by decide : 4 + 0 ≤ _)⟩)
  dsimp only [Pt.U, Pt.locs, Pt.cells, Pt.slots] at X70 l70 y70 z70 st70 hQ70
  subst l70 y70 z70
  obtain ⟨rfl, N70q, K70, q70_0, q70_1, q70_2, q70_3, q70_4⟩ := hQ70
  have N70 := Fr.app N0 N70q
  have Z70 : n0 ≤ T70.heap.size := Nat.le_trans Z58 K70.1
  have KC70 : Keep h0 T70.heap [] := K58.trans K70 (allS (Or.inr sz58) all0)
  refine own_tr st70 ?_
  show own_Got p e below _ T70 (mkF m 20 #[.val (.ref a0), .val r1] [(.ref b58)])
  refine own_retR X70 hx hby hlk hrt rfl d_lin_20 (by decide) (by decide) rfl ?_
  show Q_lin Z a0 r1 u1 u2 h0 n0 _ T70.heap _
  exact ⟨b58, rfl, N70, KC70, sz58, q70_0, q70_1, q70_2, q70_3, q70_4⟩
theorem d_g_role_0 : decode prog_54_method_6_code 0 = .ok (.aload_n 0, 1) := by decide +kernel
theorem d_g_role_1 : decode prog_54_method_6_code 1 = .ok (.getfield 7, 3) := by decide +kernel
theorem d_g_role_4 : decode prog_54_method_6_code 4 = .ok (.areturn, 1) := by decide +kernel
theorem ef_g_role (m : MethodId) (a0 : Addr) : entryFrame m #[(.ref a0)] 1 = mkF m 0 #[.val (.ref a0)] [] := by first | (simp [entryFrame, mkF, argsToLocals, Value.category]; done) | rfl
def Q_g_role (Z : State) (a0 : Addr) (u : Value) (h0 : Heap) (n0 : Nat) (v : Option Value) (h : Heap) (L : List Loc) : Prop := v = some u ∧ Fr n0 L ∧ h = h0
set_option maxRecDepth 65536 in
set_option maxHeartbeats 40000000 in
theorem rm_g_role (l : Launch) (Z : State) (aT : Array Value) (hw : ∀ d ∈ tables_1, d.before aT Z = true) (ws : List Jvm.Cond) (a0 : Addr) (u : Value) (h0 : Heap) (n0 : Nat) (Z0 : n0 ≤ h0.size) (hp0 : Fld Z h0 a0 "com/example/farshard/farshard/store/Link" "role" "Lcom/example/farshard/farshard/store/Link$Role;" u) (hu : u.isRef = true) :
    MetFree l (⟨"com/example/farshard/farshard/store/Link", "role", "()Lcom/example/farshard/farshard/store/Link$Role;"⟩ : MethodName) (head1 (Jvm.Cond.code (⟨"com/example/farshard/farshard/store/Link", "role", "()Lcom/example/farshard/farshard/store/Link$Role;"⟩ : MethodName) prog_54_method_6_code 1 (some (.object "com/example/farshard/farshard/store/Link$Role")) :: ws) ({ frames := 0, cells := 0, slots := 0, locals := 0 } : Room)) (fun a U => a = #[(.ref a0)] ∧ Z.Warmed39 U.vm ∧ U.heap = h0) (fun _ _ _ _ _ => True) (fun _ U o U' => ∃ v L, o = .returned v ∧ Q_g_role Z a0 u h0 n0 v U'.heap L ∧ FrameEnd U o U' L ({ frames := 0, cells := 0, slots := 0, locals := 0 } : Room).cells ({ frames := 0, cells := 0, slots := 0, locals := 0 } : Room).slots) := by
  refine MetFree.of_bodySF (plainFor_of_name pn4) hisR ?_
  intro p e s m args below meth c s₁ Bd hml0 hP hK
  obtain ⟨rfl, hZ, hh⟩ := hP
  have hx := Bd.exec
  have hby := Bd.bytes
  have hml : c.maxLocals = 1 := hml0
  have hown : s.vm.findClass "com/example/farshard/farshard/store/Link" = some m.cls := findClass_of_methodNamed Bd.named
  have hnm := (name_of_methodNamed Bd.named Bd.method).1
  have hlk := Bd.notSynchronized
  have hrt := Bd.returns
  have X0 : Stand p l e ({ frames := 0, cells := 0, slots := 0, locals := 0 } : Room) s m #[(.ref a0)] below meth c s₁ [] 0 0 := Stand.of_body Bd
  have e0 : s₁.heap = h0 := by rw [← hh, Bd.state]; rfl
  have N0 := Fr.nil n0
  refine own_cast (P := own_End s (Q_g_role Z a0 u h0 n0) ({ frames := 0, cells := 0, slots := 0, locals := 0 } : Room).cells ({ frames := 0, cells := 0, slots := 0, locals := 0 } : Room).slots) (ef_g_role m a0) ?_
  refine g_aloadN X0 hx hby d_g_role_0 rfl rfl (rfl : 0 + 1 = 1) ?_
  obtain ⟨T71, X71, e71, st71⟩ := getF X0 hx hZ hown (host := "") (Or.inl (hw _ (List.mem_of_getElem? (i := 58) rfl))) Via.refl e0 hp0 (g := (mkF m 1 #[.val (.ref a0)] [(.ref a0)])) rfl rfl (hb hby d_g_role_1)
  refine own_go st71 ?_
  show own_Got p e below _ T71 (mkF m 4 #[.val (.ref a0)] [u])
  refine own_retR X71 hx hby hlk hrt rfl d_g_role_4 (by decide) (by decide) hu ?_
  show Q_g_role Z a0 u h0 n0 _ T71.heap _
  exact ⟨rfl, N0, e71⟩
theorem d_g_remote_0 : decode prog_54_method_7_code 0 = .ok (.aload_n 0, 1) := by decide +kernel
theorem d_g_remote_1 : decode prog_54_method_7_code 1 = .ok (.getfield 13, 3) := by decide +kernel
theorem d_g_remote_4 : decode prog_54_method_7_code 4 = .ok (.areturn, 1) := by decide +kernel
theorem ef_g_remote (m : MethodId) (a0 : Addr) : entryFrame m #[(.ref a0)] 1 = mkF m 0 #[.val (.ref a0)] [] := by first | (simp [entryFrame, mkF, argsToLocals, Value.category]; done) | rfl
def Q_g_remote (Z : State) (a0 : Addr) (u : Value) (h0 : Heap) (n0 : Nat) (v : Option Value) (h : Heap) (L : List Loc) : Prop := v = some u ∧ Fr n0 L ∧ h = h0
set_option maxRecDepth 65536 in
set_option maxHeartbeats 40000000 in
theorem rm_g_remote (l : Launch) (Z : State) (aT : Array Value) (hw : ∀ d ∈ tables_1, d.before aT Z = true) (ws : List Jvm.Cond) (a0 : Addr) (u : Value) (h0 : Heap) (n0 : Nat) (Z0 : n0 ≤ h0.size) (hp0 : Fld Z h0 a0 "com/example/farshard/farshard/store/Link" "remote" "Ljava/lang/String;" u) (hu : u.isRef = true) :
    MetFree l (⟨"com/example/farshard/farshard/store/Link", "remote", "()Ljava/lang/String;"⟩ : MethodName) (head1 (Jvm.Cond.code (⟨"com/example/farshard/farshard/store/Link", "remote", "()Ljava/lang/String;"⟩ : MethodName) prog_54_method_7_code 1 (some (.object "java/lang/String")) :: ws) ({ frames := 0, cells := 0, slots := 0, locals := 0 } : Room)) (fun a U => a = #[(.ref a0)] ∧ Z.Warmed39 U.vm ∧ U.heap = h0) (fun _ _ _ _ _ => True) (fun _ U o U' => ∃ v L, o = .returned v ∧ Q_g_remote Z a0 u h0 n0 v U'.heap L ∧ FrameEnd U o U' L ({ frames := 0, cells := 0, slots := 0, locals := 0 } : Room).cells ({ frames := 0, cells := 0, slots := 0, locals := 0 } : Room).slots) := by
  refine MetFree.of_bodySF (plainFor_of_name pn4) hisR ?_
  intro p e s m args below meth c s₁ Bd hml0 hP hK
  obtain ⟨rfl, hZ, hh⟩ := hP
  have hx := Bd.exec
  have hby := Bd.bytes
  have hml : c.maxLocals = 1 := hml0
  have hown : s.vm.findClass "com/example/farshard/farshard/store/Link" = some m.cls := findClass_of_methodNamed Bd.named
  have hnm := (name_of_methodNamed Bd.named Bd.method).1
  have hlk := Bd.notSynchronized
  have hrt := Bd.returns
  have X0 : Stand p l e ({ frames := 0, cells := 0, slots := 0, locals := 0 } : Room) s m #[(.ref a0)] below meth c s₁ [] 0 0 := Stand.of_body Bd
  have e0 : s₁.heap = h0 := by rw [← hh, Bd.state]; rfl
  have N0 := Fr.nil n0
  refine own_cast (P := own_End s (Q_g_remote Z a0 u h0 n0) ({ frames := 0, cells := 0, slots := 0, locals := 0 } : Room).cells ({ frames := 0, cells := 0, slots := 0, locals := 0 } : Room).slots) (ef_g_remote m a0) ?_
  refine g_aloadN X0 hx hby d_g_remote_0 rfl rfl (rfl : 0 + 1 = 1) ?_
  obtain ⟨T72, X72, e72, st72⟩ := getF X0 hx hZ hown (host := "") (Or.inl (hw _ (List.mem_of_getElem? (i := 60) rfl))) Via.refl e0 hp0 (g := (mkF m 1 #[.val (.ref a0)] [(.ref a0)])) rfl rfl (hb hby d_g_remote_1)
  refine own_go st72 ?_
  show own_Got p e below _ T72 (mkF m 4 #[.val (.ref a0)] [u])
  refine own_retR X72 hx hby hlk hrt rfl d_g_remote_4 (by decide) (by decide) hu ?_
  show Q_g_remote Z a0 u h0 n0 _ T72.heap _
  exact ⟨rfl, N0, e72⟩
theorem d_g_state_0 : decode prog_54_method_9_code 0 = .ok (.aload_n 0, 1) := by decide +kernel
theorem d_g_state_1 : decode prog_54_method_9_code 1 = .ok (.getfield 21, 3) := by decide +kernel
theorem d_g_state_4 : decode prog_54_method_9_code 4 = .ok (.areturn, 1) := by decide +kernel
theorem ef_g_state (m : MethodId) (a0 : Addr) : entryFrame m #[(.ref a0)] 1 = mkF m 0 #[.val (.ref a0)] [] := by first | (simp [entryFrame, mkF, argsToLocals, Value.category]; done) | rfl
def Q_g_state (Z : State) (a0 : Addr) (u : Value) (h0 : Heap) (n0 : Nat) (v : Option Value) (h : Heap) (L : List Loc) : Prop := v = some u ∧ Fr n0 L ∧ h = h0
set_option maxRecDepth 65536 in
set_option maxHeartbeats 40000000 in
theorem rm_g_state (l : Launch) (Z : State) (aT : Array Value) (hw : ∀ d ∈ tables_1, d.before aT Z = true) (ws : List Jvm.Cond) (a0 : Addr) (u : Value) (h0 : Heap) (n0 : Nat) (Z0 : n0 ≤ h0.size) (hp0 : Fld Z h0 a0 "com/example/farshard/farshard/store/Link" "state" "Lcom/example/farshard/farshard/store/Link$State;" u) (hu : u.isRef = true) :
    MetFree l (⟨"com/example/farshard/farshard/store/Link", "state", "()Lcom/example/farshard/farshard/store/Link$State;"⟩ : MethodName) (head1 (Jvm.Cond.code (⟨"com/example/farshard/farshard/store/Link", "state", "()Lcom/example/farshard/farshard/store/Link$State;"⟩ : MethodName) prog_54_method_9_code 1 (some (.object "com/example/farshard/farshard/store/Link$State")) :: ws) ({ frames := 0, cells := 0, slots := 0, locals := 0 } : Room)) (fun a U => a = #[(.ref a0)] ∧ Z.Warmed39 U.vm ∧ U.heap = h0) (fun _ _ _ _ _ => True) (fun _ U o U' => ∃ v L, o = .returned v ∧ Q_g_state Z a0 u h0 n0 v U'.heap L ∧ FrameEnd U o U' L ({ frames := 0, cells := 0, slots := 0, locals := 0 } : Room).cells ({ frames := 0, cells := 0, slots := 0, locals := 0 } : Room).slots) := by
  refine MetFree.of_bodySF (plainFor_of_name pn4) hisR ?_
  intro p e s m args below meth c s₁ Bd hml0 hP hK
  obtain ⟨rfl, hZ, hh⟩ := hP
  have hx := Bd.exec
  have hby := Bd.bytes
  have hml : c.maxLocals = 1 := hml0
  have hown : s.vm.findClass "com/example/farshard/farshard/store/Link" = some m.cls := findClass_of_methodNamed Bd.named
  have hnm := (name_of_methodNamed Bd.named Bd.method).1
  have hlk := Bd.notSynchronized
  have hrt := Bd.returns
  have X0 : Stand p l e ({ frames := 0, cells := 0, slots := 0, locals := 0 } : Room) s m #[(.ref a0)] below meth c s₁ [] 0 0 := Stand.of_body Bd
  have e0 : s₁.heap = h0 := by rw [← hh, Bd.state]; rfl
  have N0 := Fr.nil n0
  refine own_cast (P := own_End s (Q_g_state Z a0 u h0 n0) ({ frames := 0, cells := 0, slots := 0, locals := 0 } : Room).cells ({ frames := 0, cells := 0, slots := 0, locals := 0 } : Room).slots) (ef_g_state m a0) ?_
  refine g_aloadN X0 hx hby d_g_state_0 rfl rfl (rfl : 0 + 1 = 1) ?_
  obtain ⟨T73, X73, e73, st73⟩ := getF X0 hx hZ hown (host := "") (Or.inl (hw _ (List.mem_of_getElem? (i := 64) rfl))) Via.refl e0 hp0 (g := (mkF m 1 #[.val (.ref a0)] [(.ref a0)])) rfl rfl (hb hby d_g_state_1)
  refine own_go st73 ?_
  show own_Got p e below _ T73 (mkF m 4 #[.val (.ref a0)] [u])
  refine own_retR X73 hx hby hlk hrt rfl d_g_state_4 (by decide) (by decide) hu ?_
  show Q_g_state Z a0 u h0 n0 _ T73.heap _
  exact ⟨rfl, N0, e73⟩
theorem d_g_mode_0 : decode prog_54_method_8_code 0 = .ok (.aload_n 0, 1) := by decide +kernel
theorem d_g_mode_1 : decode prog_54_method_8_code 1 = .ok (.getfield 17, 3) := by decide +kernel
theorem d_g_mode_4 : decode prog_54_method_8_code 4 = .ok (.areturn, 1) := by decide +kernel
theorem ef_g_mode (m : MethodId) (a0 : Addr) : entryFrame m #[(.ref a0)] 1 = mkF m 0 #[.val (.ref a0)] [] := by first | (simp [entryFrame, mkF, argsToLocals, Value.category]; done) | rfl
def Q_g_mode (Z : State) (a0 : Addr) (h0 : Heap) (n0 : Nat) (v : Option Value) (h : Heap) (L : List Loc) : Prop := v = some .null ∧ Fr n0 L ∧ h = h0
set_option maxRecDepth 65536 in
set_option maxHeartbeats 40000000 in
theorem rm_g_mode (l : Launch) (Z : State) (aT : Array Value) (hw : ∀ d ∈ tables_1, d.before aT Z = true) (ws : List Jvm.Cond) (a0 : Addr) (h0 : Heap) (n0 : Nat) (Z0 : n0 ≤ h0.size) (hp0 : Fld Z h0 a0 "com/example/farshard/farshard/store/Link" "mode" "Lcom/example/farshard/farshard/store/Link$Mode;" .null) :
    MetFree l (⟨"com/example/farshard/farshard/store/Link", "mode", "()Lcom/example/farshard/farshard/store/Link$Mode;"⟩ : MethodName) (head1 (Jvm.Cond.code (⟨"com/example/farshard/farshard/store/Link", "mode", "()Lcom/example/farshard/farshard/store/Link$Mode;"⟩ : MethodName) prog_54_method_8_code 1 (some (.object "com/example/farshard/farshard/store/Link$Mode")) :: ws) ({ frames := 0, cells := 0, slots := 0, locals := 0 } : Room)) (fun a U => a = #[(.ref a0)] ∧ Z.Warmed39 U.vm ∧ U.heap = h0) (fun _ _ _ _ _ => True) (fun _ U o U' => ∃ v L, o = .returned v ∧ Q_g_mode Z a0 h0 n0 v U'.heap L ∧ FrameEnd U o U' L ({ frames := 0, cells := 0, slots := 0, locals := 0 } : Room).cells ({ frames := 0, cells := 0, slots := 0, locals := 0 } : Room).slots) := by
  refine MetFree.of_bodySF (plainFor_of_name pn4) hisR ?_
  intro p e s m args below meth c s₁ Bd hml0 hP hK
  obtain ⟨rfl, hZ, hh⟩ := hP
  have hx := Bd.exec
  have hby := Bd.bytes
  have hml : c.maxLocals = 1 := hml0
  have hown : s.vm.findClass "com/example/farshard/farshard/store/Link" = some m.cls := findClass_of_methodNamed Bd.named
  have hnm := (name_of_methodNamed Bd.named Bd.method).1
  have hlk := Bd.notSynchronized
  have hrt := Bd.returns
  have X0 : Stand p l e ({ frames := 0, cells := 0, slots := 0, locals := 0 } : Room) s m #[(.ref a0)] below meth c s₁ [] 0 0 := Stand.of_body Bd
  have e0 : s₁.heap = h0 := by rw [← hh, Bd.state]; rfl
  have N0 := Fr.nil n0
  refine own_cast (P := own_End s (Q_g_mode Z a0 h0 n0) ({ frames := 0, cells := 0, slots := 0, locals := 0 } : Room).cells ({ frames := 0, cells := 0, slots := 0, locals := 0 } : Room).slots) (ef_g_mode m a0) ?_
  refine g_aloadN X0 hx hby d_g_mode_0 rfl rfl (rfl : 0 + 1 = 1) ?_
  obtain ⟨T74, X74, e74, st74⟩ := getF X0 hx hZ hown (host := "") (Or.inl (hw _ (List.mem_of_getElem? (i := 62) rfl))) Via.refl e0 hp0 (g := (mkF m 1 #[.val (.ref a0)] [(.ref a0)])) rfl rfl (hb hby d_g_mode_1)
  refine own_go st74 ?_
  show own_Got p e below _ T74 (mkF m 4 #[.val (.ref a0)] [.null])
  refine own_retR X74 hx hby hlk hrt rfl d_g_mode_4 (by decide) (by decide) rfl ?_
  show Q_g_mode Z a0 h0 n0 _ T74.heap _
  exact ⟨rfl, N0, e74⟩
theorem pd6 : parseMethodDescriptor "(I)Lcom/example/farshard/farshard/store/Link$Role;" = some ⟨[.int], some (.object "com/example/farshard/farshard/store/Link$Role")⟩ := by decide +kernel
theorem pd7 : parseMethodDescriptor "([C)V" = some ⟨[(.array .char)], none⟩ := by decide +kernel
theorem pd8 : parseMethodDescriptor "(I)Lcom/example/farshard/farshard/store/Link$State;" = some ⟨[.int], some (.object "com/example/farshard/farshard/store/Link$State")⟩ := by decide +kernel
theorem pd9 : parseMethodDescriptor "(Lcom/example/farshard/farshard/store/Link$State;)Lcom/example/farshard/farshard/store/Link;" = some ⟨[(.object "com/example/farshard/farshard/store/Link$State")], some (.object "com/example/farshard/farshard/store/Link")⟩ := by decide +kernel
theorem pd10 : parseMethodDescriptor "()Lcom/example/farshard/farshard/store/Link$Role;" = some ⟨[], some (.object "com/example/farshard/farshard/store/Link$Role")⟩ := by decide +kernel
theorem pd11 : parseMethodDescriptor "()Ljava/lang/String;" = some ⟨[], some (.object "java/lang/String")⟩ := by decide +kernel
theorem pd12 : parseMethodDescriptor "()Lcom/example/farshard/farshard/store/Link$Mode;" = some ⟨[], some (.object "com/example/farshard/farshard/store/Link$Mode")⟩ := by decide +kernel
theorem pd13 : parseMethodDescriptor "()Lcom/example/farshard/farshard/store/Link$State;" = some ⟨[], some (.object "com/example/farshard/farshard/store/Link$State")⟩ := by decide +kernel
theorem ef_law (m : MethodId) (x0 : Int32) (x1 : Int32) (x2 : Int32) (x3 : Int32) (x4 : Int32) : entryFrame m #[(.int x0), (.int x1), (.int x2), (.int x3), (.int x4)] maxLocals = mkF m 0 #[.val (.int x0), .val (.int x1), .val (.int x2), .val (.int x3), .val (.int x4), .unset, .unset, .unset, .unset, .unset, .unset, .unset, .unset] [] := by first | (simp [entryFrame, mkF, argsToLocals, Value.category, maxLocals]; done) | rfl
def Q_law (Z : State) (x0 : Int32) (x1 : Int32) (x2 : Int32) (x3 : Int32) (x4 : Int32) (wL : Addr) (wF : Addr) (wR : Addr) (wG : Addr) (wB : Addr) (g1 : Int32) (h0 : Heap) (n0 : Nat) (v : Option Value) (h : Heap) (L : List Loc) : Prop := v = some (.int (1 : Int32)) ∧ Fr n0 L
set_option maxRecDepth 65536 in
set_option maxHeartbeats 40000000 in
theorem rm_law (l : Launch) (Z : State) (aT : Array Value) (hw : ∀ d ∈ tables_1, d.before aT Z = true) (ws : List Jvm.Cond) (x0 : Int32) (x1 : Int32) (x2 : Int32) (x3 : Int32) (x4 : Int32) (wL : Addr) (wF : Addr) (wR : Addr) (wG : Addr) (wB : Addr) (g1 : Int32) (h0 : Heap) (n0 : Nat) (Z0 : n0 ≤ h0.size) (hp0 : Sta Z h0 "com/example/farshard/farshard/store/Link$Role" "LEADER" "Lcom/example/farshard/farshard/store/Link$Role;" (.ref wL)) (hp1 : Sta Z h0 "com/example/farshard/farshard/store/Link$Role" "FOLLOWER" "Lcom/example/farshard/farshard/store/Link$Role;" (.ref wF)) (hp2 : Sta Z h0 "com/example/farshard/farshard/store/Link$State" "RECOVERING" "Lcom/example/farshard/farshard/store/Link$State;" (.ref wR)) (hp3 : Sta Z h0 "com/example/farshard/farshard/store/Link$State" "FOLLOWING" "Lcom/example/farshard/farshard/store/Link$State;" (.ref wG)) (hp4 : Sta Z h0 "com/example/farshard/farshard/store/Link$State" "BROKEN" "Lcom/example/farshard/farshard/store/Link$State;" (.ref wB)) (hp5 : Sta Z h0 "java/lang/String" "COMPACT_STRINGS" "Z" (.int g1)) (hg1 : ¬ (g1 = (0 : Int32))) :
    MetFree l x (head1 (Jvm.Cond.code x code maxLocals ret :: ws) room_1) (fun a U => a = #[(.int x0), (.int x1), (.int x2), (.int x3), (.int x4)] ∧ Z.Warmed39 U.vm ∧ U.heap = h0) (fun _ _ _ _ _ => True) (fun _ U o U' => ∃ v L, o = .returned v ∧ Q_law Z x0 x1 x2 x3 x4 wL wF wR wG wB g1 h0 n0 v U'.heap L ∧ FrameEnd U o U' L 24 128) := by
  refine MetFree.of_bodySF (plainFor_of_name pn2) hisR ?_
  intro p e s m args below meth c s₁ Bd hml0 hP hK
  obtain ⟨rfl, hZ, hh⟩ := hP
  have hx := Bd.exec
  have hby := Bd.bytes
  have hml : c.maxLocals = 13 := hml0
  have hown : s.vm.findClass "com/example/farshard/farshard/store/LinkInPinLaw" = some m.cls := findClass_of_methodNamed Bd.named
  have hnm := (name_of_methodNamed Bd.named Bd.method).1
  have hlk := Bd.notSynchronized
  have hrt := Bd.returns
  have X0 : Stand p l e room_1 s m #[(.int x0), (.int x1), (.int x2), (.int x3), (.int x4)] below meth c s₁ [] 0 0 := Stand.of_body Bd
  have e0 : s₁.heap = h0 := by rw [← hh, Bd.state]; rfl
  have N0 := Fr.nil n0
  refine own_cast (P := own_End s (Q_law Z x0 x1 x2 x3 x4 wL wF wR wG wB g1 h0 n0) 24 128) (ef_law m x0 x1 x2 x3 x4) ?_
  refine g_iloadN X0 hx hby at_0 rfl (rfl : 0 + 1 = 1) ?_
  obtain ⟨_, _, ⟨T75, L75, k75, n75⟩, -, X75, ⟨Lc75, hQ75, l75, y75, z75⟩, st75⟩ := Jvm.LawKit.callS X0 hx (y := (⟨"com/example/farshard/farshard/store/LinkInPinLaw", "role", "(I)Lcom/example/farshard/farshard/store/Link$Role;"⟩ : MethodName)) hown (mvT hZ (hw _ (List.mem_of_getElem? (i := 0) rfl))) (mvT hZ (hw _ (List.mem_of_getElem? (i := 1) rfl))) (mvT hZ (hw _ (List.mem_of_getElem? (i := 2) rfl))) (mvT hZ (hw _ (List.mem_of_getElem? (i := 3) rfl))) (by decide) (backOf (W := 0) (rm_rol l Z aT hw [] x0 wL wF h0 n0 Z0 hp0 hp1) hZ (hw _ (List.mem_of_getElem? (i := 3) rfl)) (hw _ (List.mem_of_getElem? (i := 2) rfl)) (by decide) (by decide)) (g := (mkF m 1 #[.val (.int x0), .val (.int x1), .val (.int x2), .val (.int x3), .val (.int x4), .unset, .unset, .unset, .unset, .unset, .unset, .unset, .unset] [(.int x0)])) rfl (by rw [hml]; rfl) (argsL := [(.int x0)]) (rest := []) (lenOf pd6 rfl) rfl (by show 2 * 0 + _ ≤ _; exact Nat.le_of_eq rfl) (hb hby at_1) (fun _ _ => ⟨rfl, e0, (by decide : 0 + 0 ≤ _), (by decide : 0 + 0 ≤ _)⟩)
  dsimp only [Pt.U, Pt.locs, Pt.cells, Pt.slots] at X75 l75 y75 z75 st75 hQ75
  subst l75 y75 z75
  obtain ⟨r_75, rfl, N75q, eq75, q75_0⟩ := hQ75
  have N75 := Fr.app N0 N75q
  refine own_go st75 ?_
  show own_Got p e below _ T75 (mkF m 4 #[.val (.int x0), .val (.int x1), .val (.int x2), .val (.int x3), .val (.int x4), .unset, .unset, .unset, .unset, .unset, .unset, .unset, .unset] [r_75])
  refine g_astore X75 hx hby #[.val (.int x0), .val (.int x1), .val (.int x2), .val (.int x3), .val (.int x4), .val r_75, .unset, .unset, .unset, .unset, .unset, .unset, .unset] at_4 q75_0 (by rcases ref_cases q75_0 with h | ⟨_, h⟩ <;> subst h <;> rfl) (rfl : 4 + 2 = 6) ?_
  refine g_anull X75 hx hby at_6 (rfl : 6 + 1 = 7) ?_
  refine g_astore X75 hx hby #[.val (.int x0), .val (.int x1), .val (.int x2), .val (.int x3), .val (.int x4), .val r_75, .val .null, .unset, .unset, .unset, .unset, .unset, .unset] at_7 rfl rfl (rfl : 7 + 2 = 9) ?_
  refine g_iloadN X75 hx hby at_9 rfl (rfl : 9 + 1 = 10) ?_
  refine g_iconst X75 hx hby (2 : Int32) at_10 (by decide) (rfl : 10 + 1 = 11) ?_
  refine g_ishr X75 hx hby at_11 (rfl : 11 + 1 = 12) ?_
  refine g_iconst X75 hx hby (1 : Int32) at_12 (by decide) (rfl : 12 + 1 = 13) ?_
  refine g_iand X75 hx hby at_13 (rfl : 13 + 1 = 14) ?_
  by_cases c76 : ((x0 >>> ((2 : Int32) &&& 31)) &&& (1 : Int32)) = (0 : Int32)
  · refine g_ifF X75 hx hby at_14 ((if0 _ _).trans (teq c76).2) (rfl : 14 + 3 = 17) ?_
    refine g_iconst X75 hx hby (2 : Int32) at_17 (by decide) (rfl : 17 + 1 = 18) ?_
    obtain ⟨T77, h77, k77, X77, e77, E77, A77, B77, st77⟩ := newPE X75 hx hZ (hw _ (List.mem_of_getElem? (i := 7) rfl)) eq75 (g := (mkF m 18 #[.val (.int x0), .val (.int x1), .val (.int x2), .val (.int x3), .val (.int x4), .val r_75, .val .null, .unset, .unset, .unset, .unset, .unset, .unset] [(.int (2 : Int32))])) rfl (hb hby at_18) rfl (by decide) (cap := 2) (by decide) (by decide) (by decide) (by decide) (ad := "[C") (by decide +kernel)
    obtain ⟨b77, g77⟩ : ∃ z, z = h0.size := ⟨_, rfl⟩
    rw [← g77] at A77 B77 st77
    have Z77 : n0 ≤ h77.size := Nat.le_trans Z0 E77.1
    have ge77 : n0 ≤ b77 := Nat.le_trans Z0 (Nat.le_of_eq g77.symm)
    have V77 : Arv Z h77 b77 k77 .char (2 : Int32) [(.int (0 : Int32)), (.int (0 : Int32))] (.int (0 : Int32)) := (Arv.new A77 (by decide)).pad (pad_rep [] _ 2)
    refine own_go st77 ?_
    show own_Got p e below _ T77 (mkF m 20 #[.val (.int x0), .val (.int x1), .val (.int x2), .val (.int x3), .val (.int x4), .val r_75, .val .null, .unset, .unset, .unset, .unset, .unset, .unset] [(.ref b77)])
    refine g_astore X77 hx hby #[.val (.int x0), .val (.int x1), .val (.int x2), .val (.int x3), .val (.int x4), .val r_75, .val .null, .val (.ref b77), .unset, .unset, .unset, .unset, .unset] at_20 rfl rfl (rfl : 20 + 2 = 22) ?_
    refine g_aload X77 hx hby at_22 rfl rfl (rfl : 22 + 2 = 24) ?_
    refine g_iconst X77 hx hby (0 : Int32) at_24 (by decide) (rfl : 24 + 1 = 25) ?_
    refine g_iloadN X77 hx hby at_25 rfl (rfl : 25 + 1 = 26) ?_
    refine g_sipush X77 hx hby (255 : Int32) at_26 (by decide) (rfl : 26 + 3 = 29) ?_
    refine g_iand X77 hx hby at_29 (rfl : 29 + 1 = 30) ?_
    refine g_i2c X77 hx hby at_30 (rfl : 30 + 1 = 31) ?_
    obtain ⟨T78, h78, X78, e78, W78, V78, st78⟩ := a_castore X77 hx hby hZ e77 (ls := #[.val (.int x0), .val (.int x1), .val (.int x2), .val (.int x3), .val (.int x4), .val r_75, .val .null, .val (.ref b77), .unset, .unset, .unset, .unset, .unset]) (st := []) (j := (0 : Int32)) ((x1 &&& (255 : Int32)).toUInt32.toUInt16.toUInt32.toInt32) 0 V77 ⟨by decide, by decide⟩ (by decide) (Nat.le_of_ble_eq_true rfl) at_31
    have Z78 : n0 ≤ h78.size := Nat.le_trans Z77 (Keep.of_wr W78).1
    have N78 := Fr.snoc X78 N75 ge77
    have V78' : Arv Z h78 b77 k77 .char (2 : Int32) [(.int ((x1 &&& (255 : Int32)).toUInt32.toUInt16.toUInt32.toInt32)), (.int (0 : Int32))] (.int (0 : Int32)) := by have q := V78; rw [own_nc] at q; exact q
    refine own_go st78 ?_
    show own_Got p e below _ T78 (mkF m 32 #[.val (.int x0), .val (.int x1), .val (.int x2), .val (.int x3), .val (.int x4), .val r_75, .val .null, .val (.ref b77), .unset, .unset, .unset, .unset, .unset] [])
    refine g_aload X78 hx hby at_32 rfl rfl (rfl : 32 + 2 = 34) ?_
    refine g_iconst X78 hx hby (1 : Int32) at_34 (by decide) (rfl : 34 + 1 = 35) ?_
    refine g_iloadN X78 hx hby at_35 rfl (rfl : 35 + 1 = 36) ?_
    refine g_sipush X78 hx hby (255 : Int32) at_36 (by decide) (rfl : 36 + 3 = 39) ?_
    refine g_iand X78 hx hby at_39 (rfl : 39 + 1 = 40) ?_
    refine g_i2c X78 hx hby at_40 (rfl : 40 + 1 = 41) ?_
    obtain ⟨T79, h79, X79, e79, W79, V79, st79⟩ := a_castore X78 hx hby hZ e78 (ls := #[.val (.int x0), .val (.int x1), .val (.int x2), .val (.int x3), .val (.int x4), .val r_75, .val .null, .val (.ref b77), .unset, .unset, .unset, .unset, .unset]) (st := []) (j := (1 : Int32)) ((x2 &&& (255 : Int32)).toUInt32.toUInt16.toUInt32.toInt32) 1 V78' ⟨by decide, by decide⟩ (by decide) (Nat.le_of_ble_eq_true rfl) at_41
    have Z79 : n0 ≤ h79.size := Nat.le_trans Z78 (Keep.of_wr W79).1
    have N79 := Fr.snoc X79 N78 ge77
    have V79' : Arv Z h79 b77 k77 .char (2 : Int32) [(.int ((x1 &&& (255 : Int32)).toUInt32.toUInt16.toUInt32.toInt32)), (.int ((x2 &&& (255 : Int32)).toUInt32.toUInt16.toUInt32.toInt32))] (.int (0 : Int32)) := by have q := V79; rw [own_nc] at q; exact q
    refine own_go st79 ?_
    show own_Got p e below _ T79 (mkF m 42 #[.val (.int x0), .val (.int x1), .val (.int x2), .val (.int x3), .val (.int x4), .val r_75, .val .null, .val (.ref b77), .unset, .unset, .unset, .unset, .unset] [])
    have f81 : Exa Z h79 b77 "[C" := (Exa.wr W79 (Exa.wr W78 B77))
    obtain ⟨T80, h80, X80, e80, E80, A80, D80, -, st80⟩ := newO X79 hx hZ hown (hw _ (List.mem_of_getElem? (i := 8) rfl)) (hw _ (List.mem_of_getElem? (i := 9) rfl)) (hw _ (List.mem_of_getElem? (i := 10) rfl)) e79 (g := (mkF m 42 #[.val (.int x0), .val (.int x1), .val (.int x2), .val (.int x3), .val (.int x4), .val r_75, .val .null, .val (.ref b77), .unset, .unset, .unset, .unset, .unset] [])) rfl (hb hby at_42) (by decide) (by decide)
    obtain ⟨b80, g80⟩ : ∃ z, z = h79.size := ⟨_, rfl⟩
    rw [← g80] at A80 D80 st80
    have ne82 : b77 ≠ b80 := Nat.ne_of_lt (Nat.lt_of_lt_of_le (f81).lt (Nat.le_of_eq g80.symm))
    have Z80 : n0 ≤ h80.size := Nat.le_trans Z79 E80.1
    have ge80 : n0 ≤ b80 := Nat.le_trans Z79 (Nat.le_of_eq g80.symm)
    have f83 : Fld Z h80 b80 "java/lang/String" "coder" "B" (.int (0 : Int32)) := D80 (Or.inr (hw _ (List.mem_of_getElem? (i := 34) rfl))) (ty := .byte) (by decide)
    have f84 : Fld Z h80 b80 "java/lang/String" "value" "[B" .null := D80 (Or.inr (hw _ (List.mem_of_getElem? (i := 36) rfl))) (ty := (.array .byte)) (by decide)
    refine own_go st80 ?_
    show own_Got p e below _ T80 (mkF m 45 #[.val (.int x0), .val (.int x1), .val (.int x2), .val (.int x3), .val (.int x4), .val r_75, .val .null, .val (.ref b77), .unset, .unset, .unset, .unset, .unset] [(.ref b80)])
    refine g_dup X80 hx hby at_45 rfl (rfl : 45 + 1 = 46) ?_
    refine g_aload X80 hx hby at_46 rfl rfl (rfl : 46 + 2 = 48) ?_
    have f86 : Arv Z h80 b77 k77 .char (2 : Int32) [(.int ((x1 &&& (255 : Int32)).toUInt32.toUInt16.toUInt32.toInt32)), (.int ((x2 &&& (255 : Int32)).toUInt32.toUInt16.toUInt32.toInt32))] (.int (0 : Int32)) := (V79'.ext E80)
    have f87 : Sta Z h80 "java/lang/String" "COMPACT_STRINGS" "Z" (.int g1) := (Sta.ext E80 (Sta.wr W79 (Sta.wr W78 (Sta.ext E77 hp5))))
    have f88 : Exa Z h80 b77 "[C" := (Exa.ext E80 f81)
    obtain ⟨_, _, ⟨T85, L85, k85, n85⟩, -, X85, ⟨Lc85, hQ85, l85, y85, z85⟩, st85⟩ := X80.specialBack hx (y := (⟨"java/lang/String", "<init>", "([C)V"⟩ : MethodName)) rfl hown (mvT hZ (hw _ (List.mem_of_getElem? (i := 11) rfl))) (mvT hZ (hw _ (List.mem_of_getElem? (i := 12) rfl))) (mvT hZ (hw _ (List.mem_of_getElem? (i := 13) rfl))) (by decide) (backOf (W := 1) (rm_si1_2 l Z aT hw [] b80 b77 k77 ((x1 &&& (255 : Int32)).toUInt32.toUInt16.toUInt32.toInt32) ((x2 &&& (255 : Int32)).toUInt32.toUInt16.toUInt32.toInt32) g1 h80 n0 Z80 A80 f84 f83 ge80 f86 f87 (own_c255 _ : ¬ ((255 : Int32) < ((x1 &&& (255 : Int32)).toUInt32.toUInt16.toUInt32.toInt32))) (own_c255 _ : ¬ ((255 : Int32) < ((x2 &&& (255 : Int32)).toUInt32.toUInt16.toUInt32.toInt32))) hg1) hZ (hw _ (List.mem_of_getElem? (i := 13) rfl)) (hw _ (List.mem_of_getElem? (i := 10) rfl)) (by decide) (by decide)) (g := (mkF m 48 #[.val (.int x0), .val (.int x1), .val (.int x2), .val (.int x3), .val (.int x4), .val r_75, .val .null, .val (.ref b77), .unset, .unset, .unset, .unset, .unset] [(.ref b77), (.ref b80), (.ref b80)])) rfl (by rw [hml]; rfl) (Steps.refl _) (a := b80) (argsL := [(.ref b77)]) (rest := [(.ref b80)]) (lenOf pd7 rfl) rfl (by show 2 * 0 + _ ≤ _; exact Nat.le_of_eq rfl) (hb hby at_48) (fun _ _ => ⟨rfl, e80, (by decide : 2 + 1 ≤ _), (by decide : 6 + 2 ≤ _)⟩)
    dsimp only [Pt.U, Pt.locs, Pt.cells, Pt.slots] at X85 l85 y85 z85 st85 hQ85
    subst l85 y85 z85
    obtain ⟨ob_85, kb_85, rfl, N85q, K85, q85_0, q85_1, q85_2, q85_3, q85_4, q85_5⟩ := hQ85
    have N85 := Fr.app N79 N85q
    have Z85 : n0 ≤ T85.heap.size := Nat.le_trans Z80 K85.1
    have ne89 : b77 ≠ ob_85 := Nat.ne_of_lt (Nat.lt_of_lt_of_le (f88).lt q85_3)
    have ne90 : b80 ≠ ob_85 := Nat.ne_of_lt (Nat.lt_of_lt_of_le (A80).lt q85_3)
    have ge91 : n0 ≤ ob_85 := Nat.le_trans Z80 q85_3
    refine own_tr st85 ?_
    show own_Got p e below _ T85 (mkF m 51 #[.val (.int x0), .val (.int x1), .val (.int x2), .val (.int x3), .val (.int x4), .val r_75, .val .null, .val (.ref b77), .unset, .unset, .unset, .unset, .unset] [(.ref b80)])
    refine g_astore X85 hx hby #[.val (.int x0), .val (.int x1), .val (.int x2), .val (.int x3), .val (.int x4), .val r_75, .val (.ref b80), .val (.ref b77), .unset, .unset, .unset, .unset, .unset] at_51 rfl rfl (rfl : 51 + 2 = 53) ?_
    refine g_iloadN X85 hx hby at_53 rfl (rfl : 53 + 1 = 54) ?_
    have f93 : Sta Z T85.heap "com/example/farshard/farshard/store/Link$State" "RECOVERING" "Lcom/example/farshard/farshard/store/Link$State;" (.ref wR) := (own_stakeep (Sta.ext E80 (Sta.wr W79 (Sta.wr W78 (Sta.ext E77 hp2)))) K85 A80)
    have f94 : Sta Z T85.heap "com/example/farshard/farshard/store/Link$State" "FOLLOWING" "Lcom/example/farshard/farshard/store/Link$State;" (.ref wG) := (own_stakeep (Sta.ext E80 (Sta.wr W79 (Sta.wr W78 (Sta.ext E77 hp3)))) K85 A80)
    have f95 : Sta Z T85.heap "com/example/farshard/farshard/store/Link$State" "BROKEN" "Lcom/example/farshard/farshard/store/Link$State;" (.ref wB) := (own_stakeep (Sta.ext E80 (Sta.wr W79 (Sta.wr W78 (Sta.ext E77 hp4)))) K85 A80)
    obtain ⟨_, _, ⟨T92, L92, k92, n92⟩, -, X92, ⟨Lc92, hQ92, l92, y92, z92⟩, st92⟩ := Jvm.LawKit.callS X85 hx (y := (⟨"com/example/farshard/farshard/store/LinkInPinLaw", "st", "(I)Lcom/example/farshard/farshard/store/Link$State;"⟩ : MethodName)) hown (mvT hZ (hw _ (List.mem_of_getElem? (i := 37) rfl))) (mvT hZ (hw _ (List.mem_of_getElem? (i := 38) rfl))) (mvT hZ (hw _ (List.mem_of_getElem? (i := 2) rfl))) (mvT hZ (hw _ (List.mem_of_getElem? (i := 39) rfl))) (by decide) (backOf (W := 0) (rm_sta l Z aT hw [] x3 wR wG wB T85.heap n0 Z85 f93 f94 f95) hZ (hw _ (List.mem_of_getElem? (i := 39) rfl)) (hw _ (List.mem_of_getElem? (i := 2) rfl)) (by decide) (by decide)) (g := (mkF m 54 #[.val (.int x0), .val (.int x1), .val (.int x2), .val (.int x3), .val (.int x4), .val r_75, .val (.ref b80), .val (.ref b77), .unset, .unset, .unset, .unset, .unset] [(.int x3)])) rfl (by rw [hml]; rfl) (argsL := [(.int x3)]) (rest := []) (lenOf pd8 rfl) rfl (by show 2 * 0 + _ ≤ _; exact Nat.le_of_eq rfl) (hb hby at_54) (fun _ _ => ⟨rfl, rfl, (by decide : 3 + 0 ≤ _), (by decide : 8 + 0 ≤ _)⟩)
    dsimp only [Pt.U, Pt.locs, Pt.cells, Pt.slots] at X92 l92 y92 z92 st92 hQ92
    subst l92 y92 z92
    obtain ⟨r_92, rfl, N92q, eq92, q92_0⟩ := hQ92
    have N92 := Fr.app N85 N92q
    refine own_go st92 ?_
    show own_Got p e below _ T92 (mkF m 57 #[.val (.int x0), .val (.int x1), .val (.int x2), .val (.int x3), .val (.int x4), .val r_75, .val (.ref b80), .val (.ref b77), .unset, .unset, .unset, .unset, .unset] [r_92])
    refine g_astore X92 hx hby #[.val (.int x0), .val (.int x1), .val (.int x2), .val (.int x3), .val (.int x4), .val r_75, .val (.ref b80), .val r_92, .unset, .unset, .unset, .unset, .unset] at_57 q92_0 (by rcases ref_cases q92_0 with h | ⟨_, h⟩ <;> subst h <;> rfl) (rfl : 57 + 2 = 59) ?_
    refine g_iload X92 hx hby at_59 rfl (rfl : 59 + 2 = 61) ?_
    obtain ⟨_, _, ⟨T96, L96, k96, n96⟩, -, X96, ⟨Lc96, hQ96, l96, y96, z96⟩, st96⟩ := Jvm.LawKit.callS X92 hx (y := (⟨"com/example/farshard/farshard/store/LinkInPinLaw", "st", "(I)Lcom/example/farshard/farshard/store/Link$State;"⟩ : MethodName)) hown (mvT hZ (hw _ (List.mem_of_getElem? (i := 37) rfl))) (mvT hZ (hw _ (List.mem_of_getElem? (i := 38) rfl))) (mvT hZ (hw _ (List.mem_of_getElem? (i := 2) rfl))) (mvT hZ (hw _ (List.mem_of_getElem? (i := 39) rfl))) (by decide) (backOf (W := 0) (rm_sta l Z aT hw [] x4 wR wG wB T85.heap n0 Z85 f93 f94 f95) hZ (hw _ (List.mem_of_getElem? (i := 39) rfl)) (hw _ (List.mem_of_getElem? (i := 2) rfl)) (by decide) (by decide)) (g := (mkF m 61 #[.val (.int x0), .val (.int x1), .val (.int x2), .val (.int x3), .val (.int x4), .val r_75, .val (.ref b80), .val r_92, .unset, .unset, .unset, .unset, .unset] [(.int x4)])) rfl (by rw [hml]; rfl) (argsL := [(.int x4)]) (rest := []) (lenOf pd8 rfl) rfl (by show 2 * 0 + _ ≤ _; exact Nat.le_of_eq rfl) (hb hby at_61) (fun _ _ => ⟨rfl, eq92, (by decide : 3 + 0 ≤ _), (by decide : 8 + 0 ≤ _)⟩)
    dsimp only [Pt.U, Pt.locs, Pt.cells, Pt.slots] at X96 l96 y96 z96 st96 hQ96
    subst l96 y96 z96
    obtain ⟨r_96, rfl, N96q, eq96, q96_0⟩ := hQ96
    have N96 := Fr.app N92 N96q
    refine own_go st96 ?_
    show own_Got p e below _ T96 (mkF m 64 #[.val (.int x0), .val (.int x1), .val (.int x2), .val (.int x3), .val (.int x4), .val r_75, .val (.ref b80), .val r_92, .unset, .unset, .unset, .unset, .unset] [r_96])
    refine g_astore X96 hx hby #[.val (.int x0), .val (.int x1), .val (.int x2), .val (.int x3), .val (.int x4), .val r_75, .val (.ref b80), .val r_92, .val r_96, .unset, .unset, .unset, .unset] at_64 q96_0 (by rcases ref_cases q96_0 with h | ⟨_, h⟩ <;> subst h <;> rfl) (rfl : 64 + 2 = 66) ?_
    have f98 : Exa Z T85.heap b77 "[C" := (Exa.keep f88 K85)
    obtain ⟨T97, h97, X97, e97, E97, A97, D97, -, st97⟩ := newO X96 hx hZ hown (hw _ (List.mem_of_getElem? (i := 46) rfl)) (hw _ (List.mem_of_getElem? (i := 47) rfl)) (hw _ (List.mem_of_getElem? (i := 48) rfl)) eq96 (g := (mkF m 66 #[.val (.int x0), .val (.int x1), .val (.int x2), .val (.int x3), .val (.int x4), .val r_75, .val (.ref b80), .val r_92, .val r_96, .unset, .unset, .unset, .unset] [])) rfl (hb hby at_66) (by decide) (by decide)
    obtain ⟨b97, g97⟩ : ∃ z, z = T85.heap.size := ⟨_, rfl⟩
    rw [← g97] at A97 D97 st97
    have ne99 : b77 ≠ b97 := Nat.ne_of_lt (Nat.lt_of_lt_of_le (f98).lt (Nat.le_of_eq g97.symm))
    have ne100 : b80 ≠ b97 := Nat.ne_of_lt (Nat.lt_of_lt_of_le (q85_0).lt (Nat.le_of_eq g97.symm))
    have ne101 : ob_85 ≠ b97 := Nat.ne_of_lt (Nat.lt_of_lt_of_le (q85_4).lt (Nat.le_of_eq g97.symm))
    have Z97 : n0 ≤ h97.size := Nat.le_trans Z85 E97.1
    have ge97 : n0 ≤ b97 := Nat.le_trans Z85 (Nat.le_of_eq g97.symm)
    have f102 : Fld Z h97 b97 "com/example/farshard/farshard/store/Link" "role" "Lcom/example/farshard/farshard/store/Link$Role;" .null := D97 (Or.inr (hw _ (List.mem_of_getElem? (i := 59) rfl))) (ty := (.object "com/example/farshard/farshard/store/Link$Role")) (by decide)
    have f103 : Fld Z h97 b97 "com/example/farshard/farshard/store/Link" "remote" "Ljava/lang/String;" .null := D97 (Or.inr (hw _ (List.mem_of_getElem? (i := 61) rfl))) (ty := (.object "java/lang/String")) (by decide)
    have f104 : Fld Z h97 b97 "com/example/farshard/farshard/store/Link" "mode" "Lcom/example/farshard/farshard/store/Link$Mode;" .null := D97 (Or.inr (hw _ (List.mem_of_getElem? (i := 63) rfl))) (ty := (.object "com/example/farshard/farshard/store/Link$Mode")) (by decide)
    have f105 : Fld Z h97 b97 "com/example/farshard/farshard/store/Link" "state" "Lcom/example/farshard/farshard/store/Link$State;" .null := D97 (Or.inr (hw _ (List.mem_of_getElem? (i := 65) rfl))) (ty := (.object "com/example/farshard/farshard/store/Link$State")) (by decide)
    refine own_go st97 ?_
    show own_Got p e below _ T97 (mkF m 69 #[.val (.int x0), .val (.int x1), .val (.int x2), .val (.int x3), .val (.int x4), .val r_75, .val (.ref b80), .val r_92, .val r_96, .unset, .unset, .unset, .unset] [(.ref b97)])
    refine g_dup X97 hx hby at_69 rfl (rfl : 69 + 1 = 70) ?_
    refine g_aload X97 hx hby at_70 rfl q75_0 (rfl : 70 + 2 = 72) ?_
    refine g_aload X97 hx hby at_72 rfl rfl (rfl : 72 + 2 = 74) ?_
    refine g_anull X97 hx hby at_74 (rfl : 74 + 1 = 75) ?_
    refine g_aload X97 hx hby at_75 rfl q92_0 (rfl : 75 + 2 = 77) ?_
    have f107 : Exa Z h97 b77 "[C" := (Exa.ext E97 f98)
    have f108 : Exa Z h97 b80 "java/lang/String" := (Exa.ext E97 q85_0)
    have f109 : Exa Z h97 ob_85 "[B" := (Exa.ext E97 q85_4)
    obtain ⟨_, _, ⟨T106, L106, k106, n106⟩, -, X106, ⟨Lc106, hQ106, l106, y106, z106⟩, st106⟩ := X97.specialBack hx (y := (⟨"com/example/farshard/farshard/store/Link", "<init>", "(Lcom/example/farshard/farshard/store/Link$Role;Ljava/lang/String;Lcom/example/farshard/farshard/store/Link$Mode;Lcom/example/farshard/farshard/store/Link$State;)V"⟩ : MethodName)) rfl hown (mvT hZ (hw _ (List.mem_of_getElem? (i := 49) rfl))) (mvT hZ (hw _ (List.mem_of_getElem? (i := 50) rfl))) (mvT hZ (hw _ (List.mem_of_getElem? (i := 51) rfl))) (by decide) (backOf (W := 1) (rm_ini l Z aT hw [] b97 r_75 (.ref b80) r_92 h97 n0 Z97 A97 f102 f103 f104 f105 ge97 q75_0 rfl q92_0) hZ (hw _ (List.mem_of_getElem? (i := 51) rfl)) (hw _ (List.mem_of_getElem? (i := 48) rfl)) (by decide) (by decide)) (g := (mkF m 77 #[.val (.int x0), .val (.int x1), .val (.int x2), .val (.int x3), .val (.int x4), .val r_75, .val (.ref b80), .val r_92, .val r_96, .unset, .unset, .unset, .unset] [r_92, .null, (.ref b80), r_75, (.ref b97), (.ref b97)])) rfl (by rw [hml]; rfl) (Steps.refl _) (a := b97) (argsL := [r_75, (.ref b80), .null, r_92]) (rest := [(.ref b97)]) (lenOf pd5 rfl) rfl (by show 2 * 0 + _ ≤ _; exact Nat.le_of_eq rfl) (hb hby at_77) (fun _ _ => ⟨rfl, e97, (by decide : 4 + 0 ≤ _), (by decide : 12 + 0 ≤ _)⟩)
    dsimp only [Pt.U, Pt.locs, Pt.cells, Pt.slots] at X106 l106 y106 z106 st106 hQ106
    subst l106 y106 z106
    obtain ⟨rfl, N106q, K106, q106_0, q106_1, q106_2, q106_3, q106_4⟩ := hQ106
    have N106 := Fr.app N96 N106q
    have Z106 : n0 ≤ T106.heap.size := Nat.le_trans Z97 K106.1
    refine own_tr st106 ?_
    show own_Got p e below _ T106 (mkF m 80 #[.val (.int x0), .val (.int x1), .val (.int x2), .val (.int x3), .val (.int x4), .val r_75, .val (.ref b80), .val r_92, .val r_96, .unset, .unset, .unset, .unset] [(.ref b97)])
    refine g_astore X106 hx hby #[.val (.int x0), .val (.int x1), .val (.int x2), .val (.int x3), .val (.int x4), .val r_75, .val (.ref b80), .val r_92, .val r_96, .val (.ref b97), .unset, .unset, .unset] at_80 rfl rfl (rfl : 80 + 2 = 82) ?_
    refine g_aload X106 hx hby at_82 rfl rfl (rfl : 82 + 2 = 84) ?_
    refine g_aload X106 hx hby at_84 rfl q96_0 (rfl : 84 + 2 = 86) ?_
    have f111 : Exa Z T106.heap b77 "[C" := (Exa.keep f107 K106)
    have f112 : Exa Z T106.heap b80 "java/lang/String" := (Exa.keep f108 K106)
    have f113 : Exa Z T106.heap ob_85 "[B" := (Exa.keep f109 K106)
    obtain ⟨cq110, kq110, q110a, q110b, q110c⟩ := isOf hZ rfl q106_0
    obtain ⟨_, _, ⟨T110, L110, k110, n110⟩, -, X110, ⟨Lc110, hQ110, l110, y110, z110⟩, st110⟩ := X106.virtualBack hx (y := (⟨"com/example/farshard/farshard/store/Link", "in", "(Lcom/example/farshard/farshard/store/Link$State;)Lcom/example/farshard/farshard/store/Link;"⟩ : MethodName)) (z := (⟨"com/example/farshard/farshard/store/Link", "in", "(Lcom/example/farshard/farshard/store/Link$State;)Lcom/example/farshard/farshard/store/Link;"⟩ : MethodName)) hown (mvT hZ (hw _ (List.mem_of_getElem? (i := 66) rfl))) (mvT hZ (hw _ (List.mem_of_getElem? (i := 67) rfl))) (notFace_of_selects (args := #[]) (mvT hZ (hw _ (List.mem_of_getElem? (i := 69) rfl)))) (mvT hZ (hw _ (List.mem_of_getElem? (i := 69) rfl))) (mvT hZ (hw _ (List.mem_of_getElem? (i := 68) rfl))) (by decide) (backOf (W := 0) (rm_lin l Z aT hw [] b97 r_96 r_75 (.ref b80) T106.heap n0 Z106 q106_1 q106_2 q106_3 q96_0 q75_0 rfl) hZ (hw _ (List.mem_of_getElem? (i := 70) rfl)) (hw _ (List.mem_of_getElem? (i := 48) rfl)) (by decide) (by decide)) q110a q110c (g := (mkF m 86 #[.val (.int x0), .val (.int x1), .val (.int x2), .val (.int x3), .val (.int x4), .val r_75, .val (.ref b80), .val r_92, .val r_96, .val (.ref b97), .unset, .unset, .unset] [r_96, (.ref b97)])) rfl (by rw [hml]; rfl) (Steps.refl _) (argsL := [r_96]) (rest := []) (lenOf pd9 rfl) rfl (by show 2 * 0 + _ ≤ _; exact Nat.le_of_eq rfl) (hb hby at_86) (fun _ _ => ⟨rfl, rfl, (by decide : 4 + 1 ≤ _), (by decide : 12 + 4 ≤ _)⟩)
    dsimp only [Pt.U, Pt.locs, Pt.cells, Pt.slots] at X110 l110 y110 z110 st110 hQ110
    subst l110 y110 z110
    obtain ⟨ob_110, rfl, N110q, K110, q110_0, q110_1, q110_2, q110_3, q110_4, q110_5⟩ := hQ110
    have N110 := Fr.app N106 N110q
    have Z110 : n0 ≤ T110.heap.size := Nat.le_trans Z106 K110.1
    have ne114 : b77 ≠ ob_110 := Nat.ne_of_lt (Nat.lt_of_lt_of_le (f111).lt q110_0)
    have ne115 : b80 ≠ ob_110 := Nat.ne_of_lt (Nat.lt_of_lt_of_le (f112).lt q110_0)
    have ne116 : ob_85 ≠ ob_110 := Nat.ne_of_lt (Nat.lt_of_lt_of_le (f113).lt q110_0)
    have ne117 : b97 ≠ ob_110 := Nat.ne_of_lt (Nat.lt_of_lt_of_le (q106_0).lt q110_0)
    have ge118 : n0 ≤ ob_110 := Nat.le_trans Z106 q110_0
    refine own_tr st110 ?_
    show own_Got p e below _ T110 (mkF m 89 #[.val (.int x0), .val (.int x1), .val (.int x2), .val (.int x3), .val (.int x4), .val r_75, .val (.ref b80), .val r_92, .val r_96, .val (.ref b97), .unset, .unset, .unset] [(.ref ob_110)])
    refine g_astore X110 hx hby #[.val (.int x0), .val (.int x1), .val (.int x2), .val (.int x3), .val (.int x4), .val r_75, .val (.ref b80), .val r_92, .val r_96, .val (.ref b97), .val (.ref ob_110), .unset, .unset] at_89 rfl rfl (rfl : 89 + 2 = 91) ?_
    refine g_aload X110 hx hby at_91 rfl rfl (rfl : 91 + 2 = 93) ?_
    refine g_innT X110 hx hby at_93 (by decide) (pc' := 98) (by decide) ?_
    refine g_aload X110 hx hby at_98 rfl rfl (rfl : 98 + 2 = 100) ?_
    obtain ⟨cq119, kq119, q119a, q119b, q119c⟩ := isOf hZ rfl q110_1
    obtain ⟨_, _, ⟨T119, L119, k119, n119⟩, -, X119, ⟨Lc119, hQ119, l119, y119, z119⟩, st119⟩ := X110.virtualBack hx (y := (⟨"com/example/farshard/farshard/store/Link", "role", "()Lcom/example/farshard/farshard/store/Link$Role;"⟩ : MethodName)) (z := (⟨"com/example/farshard/farshard/store/Link", "role", "()Lcom/example/farshard/farshard/store/Link$Role;"⟩ : MethodName)) hown (mvT hZ (hw _ (List.mem_of_getElem? (i := 73) rfl))) (mvT hZ (hw _ (List.mem_of_getElem? (i := 74) rfl))) (notFace_of_selects (args := #[]) (mvT hZ (hw _ (List.mem_of_getElem? (i := 76) rfl)))) (mvT hZ (hw _ (List.mem_of_getElem? (i := 76) rfl))) (mvT hZ (hw _ (List.mem_of_getElem? (i := 75) rfl))) (by decide) (backOf (W := 0) (rm_g_role l Z aT hw [] ob_110 r_75 T110.heap n0 Z110 q110_2 q75_0) hZ (hw _ (List.mem_of_getElem? (i := 77) rfl)) (hw _ (List.mem_of_getElem? (i := 48) rfl)) (by decide) (by decide)) q119a q119c (g := (mkF m 100 #[.val (.int x0), .val (.int x1), .val (.int x2), .val (.int x3), .val (.int x4), .val r_75, .val (.ref b80), .val r_92, .val r_96, .val (.ref b97), .val (.ref ob_110), .unset, .unset] [(.ref ob_110)])) rfl (by rw [hml]; rfl) (Steps.refl _) (argsL := []) (rest := []) (lenOf pd10 rfl) rfl (by show 2 * 0 + _ ≤ _; exact Nat.le_of_eq rfl) (hb hby at_100) (fun _ _ => ⟨rfl, rfl, (by decide : 5 + 0 ≤ _), (by decide : 16 + 0 ≤ _)⟩)
    dsimp only [Pt.U, Pt.locs, Pt.cells, Pt.slots] at X119 l119 y119 z119 st119 hQ119
    subst l119 y119 z119
    obtain ⟨rfl, N119q, eq119⟩ := hQ119
    have N119 := Fr.app N110 N119q
    refine own_tr st119 ?_
    show own_Got p e below _ T119 (mkF m 103 #[.val (.int x0), .val (.int x1), .val (.int x2), .val (.int x3), .val (.int x4), .val r_75, .val (.ref b80), .val r_92, .val r_96, .val (.ref b97), .val (.ref ob_110), .unset, .unset] [r_75])
    refine g_aload X119 hx hby at_103 rfl q75_0 (rfl : 103 + 2 = 105) ?_
    refine g_acmp X119 hx hby (pc' := 108) true at_105 q75_0 q75_0 (decide_eq_true rfl) (by decide) (by decide) ?_
    refine g_aload X119 hx hby at_108 rfl rfl (rfl : 108 + 2 = 110) ?_
    obtain ⟨cq120, kq120, q120a, q120b, q120c⟩ := isOf hZ eq119 q110_1
    obtain ⟨_, _, ⟨T120, L120, k120, n120⟩, -, X120, ⟨Lc120, hQ120, l120, y120, z120⟩, st120⟩ := X119.virtualBack hx (y := (⟨"com/example/farshard/farshard/store/Link", "remote", "()Ljava/lang/String;"⟩ : MethodName)) (z := (⟨"com/example/farshard/farshard/store/Link", "remote", "()Ljava/lang/String;"⟩ : MethodName)) hown (mvT hZ (hw _ (List.mem_of_getElem? (i := 78) rfl))) (mvT hZ (hw _ (List.mem_of_getElem? (i := 79) rfl))) (notFace_of_selects (args := #[]) (mvT hZ (hw _ (List.mem_of_getElem? (i := 81) rfl)))) (mvT hZ (hw _ (List.mem_of_getElem? (i := 81) rfl))) (mvT hZ (hw _ (List.mem_of_getElem? (i := 80) rfl))) (by decide) (backOf (W := 0) (rm_g_remote l Z aT hw [] ob_110 (.ref b80) T110.heap n0 Z110 q110_3 rfl) hZ (hw _ (List.mem_of_getElem? (i := 82) rfl)) (hw _ (List.mem_of_getElem? (i := 48) rfl)) (by decide) (by decide)) q120a q120c (g := (mkF m 110 #[.val (.int x0), .val (.int x1), .val (.int x2), .val (.int x3), .val (.int x4), .val r_75, .val (.ref b80), .val r_92, .val r_96, .val (.ref b97), .val (.ref ob_110), .unset, .unset] [(.ref ob_110)])) rfl (by rw [hml]; rfl) (Steps.refl _) (argsL := []) (rest := []) (lenOf pd11 rfl) rfl (by show 2 * 0 + _ ≤ _; exact Nat.le_of_eq rfl) (hb hby at_110) (fun _ _ => ⟨rfl, eq119, (by decide : 5 + 0 ≤ _), (by decide : 16 + 0 ≤ _)⟩)
    dsimp only [Pt.U, Pt.locs, Pt.cells, Pt.slots] at X120 l120 y120 z120 st120 hQ120
    subst l120 y120 z120
    obtain ⟨rfl, N120q, eq120⟩ := hQ120
    have N120 := Fr.app N119 N120q
    refine own_tr st120 ?_
    show own_Got p e below _ T120 (mkF m 113 #[.val (.int x0), .val (.int x1), .val (.int x2), .val (.int x3), .val (.int x4), .val r_75, .val (.ref b80), .val r_92, .val r_96, .val (.ref b97), .val (.ref ob_110), .unset, .unset] [(.ref b80)])
    refine g_aload X120 hx hby at_113 rfl rfl (rfl : 113 + 2 = 115) ?_
    refine g_acmp X120 hx hby (pc' := 118) true at_115 rfl rfl (decide_eq_true rfl) (by decide) (by decide) ?_
    refine g_aload X120 hx hby at_118 rfl rfl (rfl : 118 + 2 = 120) ?_
    obtain ⟨cq121, kq121, q121a, q121b, q121c⟩ := isOf hZ eq120 q110_1
    obtain ⟨_, _, ⟨T121, L121, k121, n121⟩, -, X121, ⟨Lc121, hQ121, l121, y121, z121⟩, st121⟩ := X120.virtualBack hx (y := (⟨"com/example/farshard/farshard/store/Link", "mode", "()Lcom/example/farshard/farshard/store/Link$Mode;"⟩ : MethodName)) (z := (⟨"com/example/farshard/farshard/store/Link", "mode", "()Lcom/example/farshard/farshard/store/Link$Mode;"⟩ : MethodName)) hown (mvT hZ (hw _ (List.mem_of_getElem? (i := 83) rfl))) (mvT hZ (hw _ (List.mem_of_getElem? (i := 84) rfl))) (notFace_of_selects (args := #[]) (mvT hZ (hw _ (List.mem_of_getElem? (i := 86) rfl)))) (mvT hZ (hw _ (List.mem_of_getElem? (i := 86) rfl))) (mvT hZ (hw _ (List.mem_of_getElem? (i := 85) rfl))) (by decide) (backOf (W := 0) (rm_g_mode l Z aT hw [] ob_110 T110.heap n0 Z110 q110_4) hZ (hw _ (List.mem_of_getElem? (i := 87) rfl)) (hw _ (List.mem_of_getElem? (i := 48) rfl)) (by decide) (by decide)) q121a q121c (g := (mkF m 120 #[.val (.int x0), .val (.int x1), .val (.int x2), .val (.int x3), .val (.int x4), .val r_75, .val (.ref b80), .val r_92, .val r_96, .val (.ref b97), .val (.ref ob_110), .unset, .unset] [(.ref ob_110)])) rfl (by rw [hml]; rfl) (Steps.refl _) (argsL := []) (rest := []) (lenOf pd12 rfl) rfl (by show 2 * 0 + _ ≤ _; exact Nat.le_of_eq rfl) (hb hby at_120) (fun _ _ => ⟨rfl, eq120, (by decide : 5 + 0 ≤ _), (by decide : 16 + 0 ≤ _)⟩)
    dsimp only [Pt.U, Pt.locs, Pt.cells, Pt.slots] at X121 l121 y121 z121 st121 hQ121
    subst l121 y121 z121
    obtain ⟨rfl, N121q, eq121⟩ := hQ121
    have N121 := Fr.app N120 N121q
    refine own_tr st121 ?_
    show own_Got p e below _ T121 (mkF m 123 #[.val (.int x0), .val (.int x1), .val (.int x2), .val (.int x3), .val (.int x4), .val r_75, .val (.ref b80), .val r_92, .val r_96, .val (.ref b97), .val (.ref ob_110), .unset, .unset] [.null])
    refine g_innF X121 hx hby at_123 (rfl : 123 + 3 = 126) ?_
    refine g_aload X121 hx hby at_126 rfl rfl (rfl : 126 + 2 = 128) ?_
    obtain ⟨cq122, kq122, q122a, q122b, q122c⟩ := isOf hZ eq121 q110_1
    obtain ⟨_, _, ⟨T122, L122, k122, n122⟩, -, X122, ⟨Lc122, hQ122, l122, y122, z122⟩, st122⟩ := X121.virtualBack hx (y := (⟨"com/example/farshard/farshard/store/Link", "state", "()Lcom/example/farshard/farshard/store/Link$State;"⟩ : MethodName)) (z := (⟨"com/example/farshard/farshard/store/Link", "state", "()Lcom/example/farshard/farshard/store/Link$State;"⟩ : MethodName)) hown (mvT hZ (hw _ (List.mem_of_getElem? (i := 88) rfl))) (mvT hZ (hw _ (List.mem_of_getElem? (i := 89) rfl))) (notFace_of_selects (args := #[]) (mvT hZ (hw _ (List.mem_of_getElem? (i := 91) rfl)))) (mvT hZ (hw _ (List.mem_of_getElem? (i := 91) rfl))) (mvT hZ (hw _ (List.mem_of_getElem? (i := 90) rfl))) (by decide) (backOf (W := 0) (rm_g_state l Z aT hw [] ob_110 r_96 T110.heap n0 Z110 q110_5 q96_0) hZ (hw _ (List.mem_of_getElem? (i := 92) rfl)) (hw _ (List.mem_of_getElem? (i := 48) rfl)) (by decide) (by decide)) q122a q122c (g := (mkF m 128 #[.val (.int x0), .val (.int x1), .val (.int x2), .val (.int x3), .val (.int x4), .val r_75, .val (.ref b80), .val r_92, .val r_96, .val (.ref b97), .val (.ref ob_110), .unset, .unset] [(.ref ob_110)])) rfl (by rw [hml]; rfl) (Steps.refl _) (argsL := []) (rest := []) (lenOf pd13 rfl) rfl (by show 2 * 0 + _ ≤ _; exact Nat.le_of_eq rfl) (hb hby at_128) (fun _ _ => ⟨rfl, eq121, (by decide : 5 + 0 ≤ _), (by decide : 16 + 0 ≤ _)⟩)
    dsimp only [Pt.U, Pt.locs, Pt.cells, Pt.slots] at X122 l122 y122 z122 st122 hQ122
    subst l122 y122 z122
    obtain ⟨rfl, N122q, eq122⟩ := hQ122
    have N122 := Fr.app N121 N122q
    refine own_tr st122 ?_
    show own_Got p e below _ T122 (mkF m 131 #[.val (.int x0), .val (.int x1), .val (.int x2), .val (.int x3), .val (.int x4), .val r_75, .val (.ref b80), .val r_92, .val r_96, .val (.ref b97), .val (.ref ob_110), .unset, .unset] [r_96])
    refine g_aload X122 hx hby at_131 rfl q96_0 (rfl : 131 + 2 = 133) ?_
    refine g_acmp X122 hx hby (pc' := 136) true at_133 q96_0 q96_0 (decide_eq_true rfl) (by decide) (by decide) ?_
    refine g_iconst X122 hx hby (1 : Int32) at_136 (by decide) (rfl : 136 + 1 = 137) ?_
    refine g_goto X122 hx hby at_137 (by decide) (pc' := 141) (by decide) ?_
    refine g_istore X122 hx hby #[.val (.int x0), .val (.int x1), .val (.int x2), .val (.int x3), .val (.int x4), .val r_75, .val (.ref b80), .val r_92, .val r_96, .val (.ref b97), .val (.ref ob_110), .val (.int (1 : Int32)), .unset] at_141 rfl (rfl : 141 + 2 = 143) ?_
    refine g_aload X122 hx hby at_143 rfl rfl (rfl : 143 + 2 = 145) ?_
    have f124 : Fld Z T110.heap b97 "com/example/farshard/farshard/store/Link" "role" "Lcom/example/farshard/farshard/store/Link$Role;" r_75 := (Fld.keep q106_1 K110 nin0)
    have f125 : Exa Z T110.heap b97 "com/example/farshard/farshard/store/Link" := (Exa.keep q106_0 K110)
    obtain ⟨cq123, kq123, q123a, q123b, q123c⟩ := isOf hZ eq122 f125
    obtain ⟨_, _, ⟨T123, L123, k123, n123⟩, -, X123, ⟨Lc123, hQ123, l123, y123, z123⟩, st123⟩ := X122.virtualBack hx (y := (⟨"com/example/farshard/farshard/store/Link", "role", "()Lcom/example/farshard/farshard/store/Link$Role;"⟩ : MethodName)) (z := (⟨"com/example/farshard/farshard/store/Link", "role", "()Lcom/example/farshard/farshard/store/Link$Role;"⟩ : MethodName)) hown (mvT hZ (hw _ (List.mem_of_getElem? (i := 73) rfl))) (mvT hZ (hw _ (List.mem_of_getElem? (i := 74) rfl))) (notFace_of_selects (args := #[]) (mvT hZ (hw _ (List.mem_of_getElem? (i := 76) rfl)))) (mvT hZ (hw _ (List.mem_of_getElem? (i := 76) rfl))) (mvT hZ (hw _ (List.mem_of_getElem? (i := 75) rfl))) (by decide) (backOf (W := 0) (rm_g_role l Z aT hw [] b97 r_75 T110.heap n0 Z110 f124 q75_0) hZ (hw _ (List.mem_of_getElem? (i := 77) rfl)) (hw _ (List.mem_of_getElem? (i := 48) rfl)) (by decide) (by decide)) q123a q123c (g := (mkF m 145 #[.val (.int x0), .val (.int x1), .val (.int x2), .val (.int x3), .val (.int x4), .val r_75, .val (.ref b80), .val r_92, .val r_96, .val (.ref b97), .val (.ref ob_110), .val (.int (1 : Int32)), .unset] [(.ref b97)])) rfl (by rw [hml]; rfl) (Steps.refl _) (argsL := []) (rest := []) (lenOf pd10 rfl) rfl (by show 2 * 0 + _ ≤ _; exact Nat.le_of_eq rfl) (hb hby at_145) (fun _ _ => ⟨rfl, eq122, (by decide : 5 + 0 ≤ _), (by decide : 16 + 0 ≤ _)⟩)
    dsimp only [Pt.U, Pt.locs, Pt.cells, Pt.slots] at X123 l123 y123 z123 st123 hQ123
    subst l123 y123 z123
    obtain ⟨rfl, N123q, eq123⟩ := hQ123
    have N123 := Fr.app N122 N123q
    refine own_tr st123 ?_
    show own_Got p e below _ T123 (mkF m 148 #[.val (.int x0), .val (.int x1), .val (.int x2), .val (.int x3), .val (.int x4), .val r_75, .val (.ref b80), .val r_92, .val r_96, .val (.ref b97), .val (.ref ob_110), .val (.int (1 : Int32)), .unset] [r_75])
    refine g_aload X123 hx hby at_148 rfl q75_0 (rfl : 148 + 2 = 150) ?_
    refine g_acmp X123 hx hby (pc' := 153) true at_150 q75_0 q75_0 (decide_eq_true rfl) (by decide) (by decide) ?_
    refine g_aload X123 hx hby at_153 rfl rfl (rfl : 153 + 2 = 155) ?_
    have f127 : Fld Z T110.heap b97 "com/example/farshard/farshard/store/Link" "remote" "Ljava/lang/String;" (.ref b80) := (Fld.keep q106_2 K110 nin0)
    obtain ⟨cq126, kq126, q126a, q126b, q126c⟩ := isOf hZ eq123 f125
    obtain ⟨_, _, ⟨T126, L126, k126, n126⟩, -, X126, ⟨Lc126, hQ126, l126, y126, z126⟩, st126⟩ := X123.virtualBack hx (y := (⟨"com/example/farshard/farshard/store/Link", "remote", "()Ljava/lang/String;"⟩ : MethodName)) (z := (⟨"com/example/farshard/farshard/store/Link", "remote", "()Ljava/lang/String;"⟩ : MethodName)) hown (mvT hZ (hw _ (List.mem_of_getElem? (i := 78) rfl))) (mvT hZ (hw _ (List.mem_of_getElem? (i := 79) rfl))) (notFace_of_selects (args := #[]) (mvT hZ (hw _ (List.mem_of_getElem? (i := 81) rfl)))) (mvT hZ (hw _ (List.mem_of_getElem? (i := 81) rfl))) (mvT hZ (hw _ (List.mem_of_getElem? (i := 80) rfl))) (by decide) (backOf (W := 0) (rm_g_remote l Z aT hw [] b97 (.ref b80) T110.heap n0 Z110 f127 rfl) hZ (hw _ (List.mem_of_getElem? (i := 82) rfl)) (hw _ (List.mem_of_getElem? (i := 48) rfl)) (by decide) (by decide)) q126a q126c (g := (mkF m 155 #[.val (.int x0), .val (.int x1), .val (.int x2), .val (.int x3), .val (.int x4), .val r_75, .val (.ref b80), .val r_92, .val r_96, .val (.ref b97), .val (.ref ob_110), .val (.int (1 : Int32)), .unset] [(.ref b97)])) rfl (by rw [hml]; rfl) (Steps.refl _) (argsL := []) (rest := []) (lenOf pd11 rfl) rfl (by show 2 * 0 + _ ≤ _; exact Nat.le_of_eq rfl) (hb hby at_155) (fun _ _ => ⟨rfl, eq123, (by decide : 5 + 0 ≤ _), (by decide : 16 + 0 ≤ _)⟩)
    dsimp only [Pt.U, Pt.locs, Pt.cells, Pt.slots] at X126 l126 y126 z126 st126 hQ126
    subst l126 y126 z126
    obtain ⟨rfl, N126q, eq126⟩ := hQ126
    have N126 := Fr.app N123 N126q
    refine own_tr st126 ?_
    show own_Got p e below _ T126 (mkF m 158 #[.val (.int x0), .val (.int x1), .val (.int x2), .val (.int x3), .val (.int x4), .val r_75, .val (.ref b80), .val r_92, .val r_96, .val (.ref b97), .val (.ref ob_110), .val (.int (1 : Int32)), .unset] [(.ref b80)])
    refine g_aload X126 hx hby at_158 rfl rfl (rfl : 158 + 2 = 160) ?_
    refine g_acmp X126 hx hby (pc' := 163) true at_160 rfl rfl (decide_eq_true rfl) (by decide) (by decide) ?_
    refine g_aload X126 hx hby at_163 rfl rfl (rfl : 163 + 2 = 165) ?_
    have f129 : Fld Z T110.heap b97 "com/example/farshard/farshard/store/Link" "mode" "Lcom/example/farshard/farshard/store/Link$Mode;" .null := (Fld.keep q106_3 K110 nin0)
    obtain ⟨cq128, kq128, q128a, q128b, q128c⟩ := isOf hZ eq126 f125
    obtain ⟨_, _, ⟨T128, L128, k128, n128⟩, -, X128, ⟨Lc128, hQ128, l128, y128, z128⟩, st128⟩ := X126.virtualBack hx (y := (⟨"com/example/farshard/farshard/store/Link", "mode", "()Lcom/example/farshard/farshard/store/Link$Mode;"⟩ : MethodName)) (z := (⟨"com/example/farshard/farshard/store/Link", "mode", "()Lcom/example/farshard/farshard/store/Link$Mode;"⟩ : MethodName)) hown (mvT hZ (hw _ (List.mem_of_getElem? (i := 83) rfl))) (mvT hZ (hw _ (List.mem_of_getElem? (i := 84) rfl))) (notFace_of_selects (args := #[]) (mvT hZ (hw _ (List.mem_of_getElem? (i := 86) rfl)))) (mvT hZ (hw _ (List.mem_of_getElem? (i := 86) rfl))) (mvT hZ (hw _ (List.mem_of_getElem? (i := 85) rfl))) (by decide) (backOf (W := 0) (rm_g_mode l Z aT hw [] b97 T110.heap n0 Z110 f129) hZ (hw _ (List.mem_of_getElem? (i := 87) rfl)) (hw _ (List.mem_of_getElem? (i := 48) rfl)) (by decide) (by decide)) q128a q128c (g := (mkF m 165 #[.val (.int x0), .val (.int x1), .val (.int x2), .val (.int x3), .val (.int x4), .val r_75, .val (.ref b80), .val r_92, .val r_96, .val (.ref b97), .val (.ref ob_110), .val (.int (1 : Int32)), .unset] [(.ref b97)])) rfl (by rw [hml]; rfl) (Steps.refl _) (argsL := []) (rest := []) (lenOf pd12 rfl) rfl (by show 2 * 0 + _ ≤ _; exact Nat.le_of_eq rfl) (hb hby at_165) (fun _ _ => ⟨rfl, eq126, (by decide : 5 + 0 ≤ _), (by decide : 16 + 0 ≤ _)⟩)
    dsimp only [Pt.U, Pt.locs, Pt.cells, Pt.slots] at X128 l128 y128 z128 st128 hQ128
    subst l128 y128 z128
    obtain ⟨rfl, N128q, eq128⟩ := hQ128
    have N128 := Fr.app N126 N128q
    refine own_tr st128 ?_
    show own_Got p e below _ T128 (mkF m 168 #[.val (.int x0), .val (.int x1), .val (.int x2), .val (.int x3), .val (.int x4), .val r_75, .val (.ref b80), .val r_92, .val r_96, .val (.ref b97), .val (.ref ob_110), .val (.int (1 : Int32)), .unset] [.null])
    refine g_innF X128 hx hby at_168 (rfl : 168 + 3 = 171) ?_
    refine g_aload X128 hx hby at_171 rfl rfl (rfl : 171 + 2 = 173) ?_
    have f131 : Fld Z T110.heap b97 "com/example/farshard/farshard/store/Link" "state" "Lcom/example/farshard/farshard/store/Link$State;" r_92 := (Fld.keep q106_4 K110 nin0)
    obtain ⟨cq130, kq130, q130a, q130b, q130c⟩ := isOf hZ eq128 f125
    obtain ⟨_, _, ⟨T130, L130, k130, n130⟩, -, X130, ⟨Lc130, hQ130, l130, y130, z130⟩, st130⟩ := X128.virtualBack hx (y := (⟨"com/example/farshard/farshard/store/Link", "state", "()Lcom/example/farshard/farshard/store/Link$State;"⟩ : MethodName)) (z := (⟨"com/example/farshard/farshard/store/Link", "state", "()Lcom/example/farshard/farshard/store/Link$State;"⟩ : MethodName)) hown (mvT hZ (hw _ (List.mem_of_getElem? (i := 88) rfl))) (mvT hZ (hw _ (List.mem_of_getElem? (i := 89) rfl))) (notFace_of_selects (args := #[]) (mvT hZ (hw _ (List.mem_of_getElem? (i := 91) rfl)))) (mvT hZ (hw _ (List.mem_of_getElem? (i := 91) rfl))) (mvT hZ (hw _ (List.mem_of_getElem? (i := 90) rfl))) (by decide) (backOf (W := 0) (rm_g_state l Z aT hw [] b97 r_92 T110.heap n0 Z110 f131 q92_0) hZ (hw _ (List.mem_of_getElem? (i := 92) rfl)) (hw _ (List.mem_of_getElem? (i := 48) rfl)) (by decide) (by decide)) q130a q130c (g := (mkF m 173 #[.val (.int x0), .val (.int x1), .val (.int x2), .val (.int x3), .val (.int x4), .val r_75, .val (.ref b80), .val r_92, .val r_96, .val (.ref b97), .val (.ref ob_110), .val (.int (1 : Int32)), .unset] [(.ref b97)])) rfl (by rw [hml]; rfl) (Steps.refl _) (argsL := []) (rest := []) (lenOf pd13 rfl) rfl (by show 2 * 0 + _ ≤ _; exact Nat.le_of_eq rfl) (hb hby at_173) (fun _ _ => ⟨rfl, eq128, (by decide : 5 + 0 ≤ _), (by decide : 16 + 0 ≤ _)⟩)
    dsimp only [Pt.U, Pt.locs, Pt.cells, Pt.slots] at X130 l130 y130 z130 st130 hQ130
    subst l130 y130 z130
    obtain ⟨rfl, N130q, eq130⟩ := hQ130
    have N130 := Fr.app N128 N130q
    refine own_tr st130 ?_
    show own_Got p e below _ T130 (mkF m 176 #[.val (.int x0), .val (.int x1), .val (.int x2), .val (.int x3), .val (.int x4), .val r_75, .val (.ref b80), .val r_92, .val r_96, .val (.ref b97), .val (.ref ob_110), .val (.int (1 : Int32)), .unset] [r_92])
    refine g_aload X130 hx hby at_176 rfl q92_0 (rfl : 176 + 2 = 178) ?_
    refine g_acmp X130 hx hby (pc' := 181) true at_178 q92_0 q92_0 (decide_eq_true rfl) (by decide) (by decide) ?_
    refine g_iconst X130 hx hby (1 : Int32) at_181 (by decide) (rfl : 181 + 1 = 182) ?_
    refine g_goto X130 hx hby at_182 (by decide) (pc' := 186) (by decide) ?_
    refine g_istore X130 hx hby #[.val (.int x0), .val (.int x1), .val (.int x2), .val (.int x3), .val (.int x4), .val r_75, .val (.ref b80), .val r_92, .val r_96, .val (.ref b97), .val (.ref ob_110), .val (.int (1 : Int32)), .val (.int (1 : Int32))] at_186 rfl (rfl : 186 + 2 = 188) ?_
    refine g_iload X130 hx hby at_188 rfl (rfl : 188 + 2 = 190) ?_
    refine g_ifF X130 hx hby at_190 ((if0 _ _).trans (feq (by decide : ¬ ((1 : Int32) = (0 : Int32)))).1) (rfl : 190 + 3 = 193) ?_
    refine g_iload X130 hx hby at_193 rfl (rfl : 193 + 2 = 195) ?_
    refine g_ifF X130 hx hby at_195 ((if0 _ _).trans (feq (by decide : ¬ ((1 : Int32) = (0 : Int32)))).1) (rfl : 195 + 3 = 198) ?_
    refine g_iconst X130 hx hby (1 : Int32) at_198 (by decide) (rfl : 198 + 1 = 199) ?_
    refine g_goto X130 hx hby at_199 (by decide) (pc' := 203) (by decide) ?_
    refine own_retN X130 hx hby hlk (t := .boolean) hrt (by simp) at_203 (by decide) (by decide) ?_
    show Q_law Z x0 x1 x2 x3 x4 wL wF wR wG wB g1 h0 n0 _ T130.heap _
    exact ⟨rfl, N130⟩
  · refine g_ifT X75 hx hby at_14 ((if0 _ _).trans (feq c76).2) (by decide) (pc' := 53) (by decide) ?_
    refine g_iloadN X75 hx hby at_53 rfl (rfl : 53 + 1 = 54) ?_
    obtain ⟨_, _, ⟨T132, L132, k132, n132⟩, -, X132, ⟨Lc132, hQ132, l132, y132, z132⟩, st132⟩ := Jvm.LawKit.callS X75 hx (y := (⟨"com/example/farshard/farshard/store/LinkInPinLaw", "st", "(I)Lcom/example/farshard/farshard/store/Link$State;"⟩ : MethodName)) hown (mvT hZ (hw _ (List.mem_of_getElem? (i := 37) rfl))) (mvT hZ (hw _ (List.mem_of_getElem? (i := 38) rfl))) (mvT hZ (hw _ (List.mem_of_getElem? (i := 2) rfl))) (mvT hZ (hw _ (List.mem_of_getElem? (i := 39) rfl))) (by decide) (backOf (W := 0) (rm_sta l Z aT hw [] x3 wR wG wB h0 n0 Z0 hp2 hp3 hp4) hZ (hw _ (List.mem_of_getElem? (i := 39) rfl)) (hw _ (List.mem_of_getElem? (i := 2) rfl)) (by decide) (by decide)) (g := (mkF m 54 #[.val (.int x0), .val (.int x1), .val (.int x2), .val (.int x3), .val (.int x4), .val r_75, .val .null, .unset, .unset, .unset, .unset, .unset, .unset] [(.int x3)])) rfl (by rw [hml]; rfl) (argsL := [(.int x3)]) (rest := []) (lenOf pd8 rfl) rfl (by show 2 * 0 + _ ≤ _; exact Nat.le_of_eq rfl) (hb hby at_54) (fun _ _ => ⟨rfl, eq75, (by decide : 0 + 0 ≤ _), (by decide : 0 + 0 ≤ _)⟩)
    dsimp only [Pt.U, Pt.locs, Pt.cells, Pt.slots] at X132 l132 y132 z132 st132 hQ132
    subst l132 y132 z132
    obtain ⟨r_132, rfl, N132q, eq132, q132_0⟩ := hQ132
    have N132 := Fr.app N75 N132q
    refine own_go st132 ?_
    show own_Got p e below _ T132 (mkF m 57 #[.val (.int x0), .val (.int x1), .val (.int x2), .val (.int x3), .val (.int x4), .val r_75, .val .null, .unset, .unset, .unset, .unset, .unset, .unset] [r_132])
    refine g_astore X132 hx hby #[.val (.int x0), .val (.int x1), .val (.int x2), .val (.int x3), .val (.int x4), .val r_75, .val .null, .val r_132, .unset, .unset, .unset, .unset, .unset] at_57 q132_0 (by rcases ref_cases q132_0 with h | ⟨_, h⟩ <;> subst h <;> rfl) (rfl : 57 + 2 = 59) ?_
    refine g_iload X132 hx hby at_59 rfl (rfl : 59 + 2 = 61) ?_
    obtain ⟨_, _, ⟨T133, L133, k133, n133⟩, -, X133, ⟨Lc133, hQ133, l133, y133, z133⟩, st133⟩ := Jvm.LawKit.callS X132 hx (y := (⟨"com/example/farshard/farshard/store/LinkInPinLaw", "st", "(I)Lcom/example/farshard/farshard/store/Link$State;"⟩ : MethodName)) hown (mvT hZ (hw _ (List.mem_of_getElem? (i := 37) rfl))) (mvT hZ (hw _ (List.mem_of_getElem? (i := 38) rfl))) (mvT hZ (hw _ (List.mem_of_getElem? (i := 2) rfl))) (mvT hZ (hw _ (List.mem_of_getElem? (i := 39) rfl))) (by decide) (backOf (W := 0) (rm_sta l Z aT hw [] x4 wR wG wB h0 n0 Z0 hp2 hp3 hp4) hZ (hw _ (List.mem_of_getElem? (i := 39) rfl)) (hw _ (List.mem_of_getElem? (i := 2) rfl)) (by decide) (by decide)) (g := (mkF m 61 #[.val (.int x0), .val (.int x1), .val (.int x2), .val (.int x3), .val (.int x4), .val r_75, .val .null, .val r_132, .unset, .unset, .unset, .unset, .unset] [(.int x4)])) rfl (by rw [hml]; rfl) (argsL := [(.int x4)]) (rest := []) (lenOf pd8 rfl) rfl (by show 2 * 0 + _ ≤ _; exact Nat.le_of_eq rfl) (hb hby at_61) (fun _ _ => ⟨rfl, eq132, (by decide : 0 + 0 ≤ _), (by decide : 0 + 0 ≤ _)⟩)
    dsimp only [Pt.U, Pt.locs, Pt.cells, Pt.slots] at X133 l133 y133 z133 st133 hQ133
    subst l133 y133 z133
    obtain ⟨r_133, rfl, N133q, eq133, q133_0⟩ := hQ133
    have N133 := Fr.app N132 N133q
    refine own_go st133 ?_
    show own_Got p e below _ T133 (mkF m 64 #[.val (.int x0), .val (.int x1), .val (.int x2), .val (.int x3), .val (.int x4), .val r_75, .val .null, .val r_132, .unset, .unset, .unset, .unset, .unset] [r_133])
    refine g_astore X133 hx hby #[.val (.int x0), .val (.int x1), .val (.int x2), .val (.int x3), .val (.int x4), .val r_75, .val .null, .val r_132, .val r_133, .unset, .unset, .unset, .unset] at_64 q133_0 (by rcases ref_cases q133_0 with h | ⟨_, h⟩ <;> subst h <;> rfl) (rfl : 64 + 2 = 66) ?_
    obtain ⟨T134, h134, X134, e134, E134, A134, D134, -, st134⟩ := newO X133 hx hZ hown (hw _ (List.mem_of_getElem? (i := 46) rfl)) (hw _ (List.mem_of_getElem? (i := 47) rfl)) (hw _ (List.mem_of_getElem? (i := 48) rfl)) eq133 (g := (mkF m 66 #[.val (.int x0), .val (.int x1), .val (.int x2), .val (.int x3), .val (.int x4), .val r_75, .val .null, .val r_132, .val r_133, .unset, .unset, .unset, .unset] [])) rfl (hb hby at_66) (by decide) (by decide)
    obtain ⟨b134, g134⟩ : ∃ z, z = h0.size := ⟨_, rfl⟩
    rw [← g134] at A134 D134 st134
    have Z134 : n0 ≤ h134.size := Nat.le_trans Z0 E134.1
    have ge134 : n0 ≤ b134 := Nat.le_trans Z0 (Nat.le_of_eq g134.symm)
    have f135 : Fld Z h134 b134 "com/example/farshard/farshard/store/Link" "role" "Lcom/example/farshard/farshard/store/Link$Role;" .null := D134 (Or.inr (hw _ (List.mem_of_getElem? (i := 59) rfl))) (ty := (.object "com/example/farshard/farshard/store/Link$Role")) (by decide)
    have f136 : Fld Z h134 b134 "com/example/farshard/farshard/store/Link" "remote" "Ljava/lang/String;" .null := D134 (Or.inr (hw _ (List.mem_of_getElem? (i := 61) rfl))) (ty := (.object "java/lang/String")) (by decide)
    have f137 : Fld Z h134 b134 "com/example/farshard/farshard/store/Link" "mode" "Lcom/example/farshard/farshard/store/Link$Mode;" .null := D134 (Or.inr (hw _ (List.mem_of_getElem? (i := 63) rfl))) (ty := (.object "com/example/farshard/farshard/store/Link$Mode")) (by decide)
    have f138 : Fld Z h134 b134 "com/example/farshard/farshard/store/Link" "state" "Lcom/example/farshard/farshard/store/Link$State;" .null := D134 (Or.inr (hw _ (List.mem_of_getElem? (i := 65) rfl))) (ty := (.object "com/example/farshard/farshard/store/Link$State")) (by decide)
    refine own_go st134 ?_
    show own_Got p e below _ T134 (mkF m 69 #[.val (.int x0), .val (.int x1), .val (.int x2), .val (.int x3), .val (.int x4), .val r_75, .val .null, .val r_132, .val r_133, .unset, .unset, .unset, .unset] [(.ref b134)])
    refine g_dup X134 hx hby at_69 rfl (rfl : 69 + 1 = 70) ?_
    refine g_aload X134 hx hby at_70 rfl q75_0 (rfl : 70 + 2 = 72) ?_
    refine g_aload X134 hx hby at_72 rfl rfl (rfl : 72 + 2 = 74) ?_
    refine g_anull X134 hx hby at_74 (rfl : 74 + 1 = 75) ?_
    refine g_aload X134 hx hby at_75 rfl q132_0 (rfl : 75 + 2 = 77) ?_
    obtain ⟨_, _, ⟨T139, L139, k139, n139⟩, -, X139, ⟨Lc139, hQ139, l139, y139, z139⟩, st139⟩ := X134.specialBack hx (y := (⟨"com/example/farshard/farshard/store/Link", "<init>", "(Lcom/example/farshard/farshard/store/Link$Role;Ljava/lang/String;Lcom/example/farshard/farshard/store/Link$Mode;Lcom/example/farshard/farshard/store/Link$State;)V"⟩ : MethodName)) rfl hown (mvT hZ (hw _ (List.mem_of_getElem? (i := 49) rfl))) (mvT hZ (hw _ (List.mem_of_getElem? (i := 50) rfl))) (mvT hZ (hw _ (List.mem_of_getElem? (i := 51) rfl))) (by decide) (backOf (W := 1) (rm_ini l Z aT hw [] b134 r_75 .null r_132 h134 n0 Z134 A134 f135 f136 f137 f138 ge134 q75_0 rfl q132_0) hZ (hw _ (List.mem_of_getElem? (i := 51) rfl)) (hw _ (List.mem_of_getElem? (i := 48) rfl)) (by decide) (by decide)) (g := (mkF m 77 #[.val (.int x0), .val (.int x1), .val (.int x2), .val (.int x3), .val (.int x4), .val r_75, .val .null, .val r_132, .val r_133, .unset, .unset, .unset, .unset] [r_132, .null, .null, r_75, (.ref b134), (.ref b134)])) rfl (by rw [hml]; rfl) (Steps.refl _) (a := b134) (argsL := [r_75, .null, .null, r_132]) (rest := [(.ref b134)]) (lenOf pd5 rfl) rfl (by show 2 * 0 + _ ≤ _; exact Nat.le_of_eq rfl) (hb hby at_77) (fun _ _ => ⟨rfl, e134, (by decide : 1 + 0 ≤ _), (by decide : 4 + 0 ≤ _)⟩)
    dsimp only [Pt.U, Pt.locs, Pt.cells, Pt.slots] at X139 l139 y139 z139 st139 hQ139
    subst l139 y139 z139
    obtain ⟨rfl, N139q, K139, q139_0, q139_1, q139_2, q139_3, q139_4⟩ := hQ139
    have N139 := Fr.app N133 N139q
    have Z139 : n0 ≤ T139.heap.size := Nat.le_trans Z134 K139.1
    refine own_tr st139 ?_
    show own_Got p e below _ T139 (mkF m 80 #[.val (.int x0), .val (.int x1), .val (.int x2), .val (.int x3), .val (.int x4), .val r_75, .val .null, .val r_132, .val r_133, .unset, .unset, .unset, .unset] [(.ref b134)])
    refine g_astore X139 hx hby #[.val (.int x0), .val (.int x1), .val (.int x2), .val (.int x3), .val (.int x4), .val r_75, .val .null, .val r_132, .val r_133, .val (.ref b134), .unset, .unset, .unset] at_80 rfl rfl (rfl : 80 + 2 = 82) ?_
    refine g_aload X139 hx hby at_82 rfl rfl (rfl : 82 + 2 = 84) ?_
    refine g_aload X139 hx hby at_84 rfl q133_0 (rfl : 84 + 2 = 86) ?_
    obtain ⟨cq140, kq140, q140a, q140b, q140c⟩ := isOf hZ rfl q139_0
    obtain ⟨_, _, ⟨T140, L140, k140, n140⟩, -, X140, ⟨Lc140, hQ140, l140, y140, z140⟩, st140⟩ := X139.virtualBack hx (y := (⟨"com/example/farshard/farshard/store/Link", "in", "(Lcom/example/farshard/farshard/store/Link$State;)Lcom/example/farshard/farshard/store/Link;"⟩ : MethodName)) (z := (⟨"com/example/farshard/farshard/store/Link", "in", "(Lcom/example/farshard/farshard/store/Link$State;)Lcom/example/farshard/farshard/store/Link;"⟩ : MethodName)) hown (mvT hZ (hw _ (List.mem_of_getElem? (i := 66) rfl))) (mvT hZ (hw _ (List.mem_of_getElem? (i := 67) rfl))) (notFace_of_selects (args := #[]) (mvT hZ (hw _ (List.mem_of_getElem? (i := 69) rfl)))) (mvT hZ (hw _ (List.mem_of_getElem? (i := 69) rfl))) (mvT hZ (hw _ (List.mem_of_getElem? (i := 68) rfl))) (by decide) (backOf (W := 0) (rm_lin l Z aT hw [] b134 r_133 r_75 .null T139.heap n0 Z139 q139_1 q139_2 q139_3 q133_0 q75_0 rfl) hZ (hw _ (List.mem_of_getElem? (i := 70) rfl)) (hw _ (List.mem_of_getElem? (i := 48) rfl)) (by decide) (by decide)) q140a q140c (g := (mkF m 86 #[.val (.int x0), .val (.int x1), .val (.int x2), .val (.int x3), .val (.int x4), .val r_75, .val .null, .val r_132, .val r_133, .val (.ref b134), .unset, .unset, .unset] [r_133, (.ref b134)])) rfl (by rw [hml]; rfl) (Steps.refl _) (argsL := [r_133]) (rest := []) (lenOf pd9 rfl) rfl (by show 2 * 0 + _ ≤ _; exact Nat.le_of_eq rfl) (hb hby at_86) (fun _ _ => ⟨rfl, rfl, (by decide : 1 + 1 ≤ _), (by decide : 4 + 4 ≤ _)⟩)
    dsimp only [Pt.U, Pt.locs, Pt.cells, Pt.slots] at X140 l140 y140 z140 st140 hQ140
    subst l140 y140 z140
    obtain ⟨ob_140, rfl, N140q, K140, q140_0, q140_1, q140_2, q140_3, q140_4, q140_5⟩ := hQ140
    have N140 := Fr.app N139 N140q
    have Z140 : n0 ≤ T140.heap.size := Nat.le_trans Z139 K140.1
    have ne141 : b134 ≠ ob_140 := Nat.ne_of_lt (Nat.lt_of_lt_of_le (q139_0).lt q140_0)
    have ge142 : n0 ≤ ob_140 := Nat.le_trans Z139 q140_0
    refine own_tr st140 ?_
    show own_Got p e below _ T140 (mkF m 89 #[.val (.int x0), .val (.int x1), .val (.int x2), .val (.int x3), .val (.int x4), .val r_75, .val .null, .val r_132, .val r_133, .val (.ref b134), .unset, .unset, .unset] [(.ref ob_140)])
    refine g_astore X140 hx hby #[.val (.int x0), .val (.int x1), .val (.int x2), .val (.int x3), .val (.int x4), .val r_75, .val .null, .val r_132, .val r_133, .val (.ref b134), .val (.ref ob_140), .unset, .unset] at_89 rfl rfl (rfl : 89 + 2 = 91) ?_
    refine g_aload X140 hx hby at_91 rfl rfl (rfl : 91 + 2 = 93) ?_
    refine g_innT X140 hx hby at_93 (by decide) (pc' := 98) (by decide) ?_
    refine g_aload X140 hx hby at_98 rfl rfl (rfl : 98 + 2 = 100) ?_
    obtain ⟨cq143, kq143, q143a, q143b, q143c⟩ := isOf hZ rfl q140_1
    obtain ⟨_, _, ⟨T143, L143, k143, n143⟩, -, X143, ⟨Lc143, hQ143, l143, y143, z143⟩, st143⟩ := X140.virtualBack hx (y := (⟨"com/example/farshard/farshard/store/Link", "role", "()Lcom/example/farshard/farshard/store/Link$Role;"⟩ : MethodName)) (z := (⟨"com/example/farshard/farshard/store/Link", "role", "()Lcom/example/farshard/farshard/store/Link$Role;"⟩ : MethodName)) hown (mvT hZ (hw _ (List.mem_of_getElem? (i := 73) rfl))) (mvT hZ (hw _ (List.mem_of_getElem? (i := 74) rfl))) (notFace_of_selects (args := #[]) (mvT hZ (hw _ (List.mem_of_getElem? (i := 76) rfl)))) (mvT hZ (hw _ (List.mem_of_getElem? (i := 76) rfl))) (mvT hZ (hw _ (List.mem_of_getElem? (i := 75) rfl))) (by decide) (backOf (W := 0) (rm_g_role l Z aT hw [] ob_140 r_75 T140.heap n0 Z140 q140_2 q75_0) hZ (hw _ (List.mem_of_getElem? (i := 77) rfl)) (hw _ (List.mem_of_getElem? (i := 48) rfl)) (by decide) (by decide)) q143a q143c (g := (mkF m 100 #[.val (.int x0), .val (.int x1), .val (.int x2), .val (.int x3), .val (.int x4), .val r_75, .val .null, .val r_132, .val r_133, .val (.ref b134), .val (.ref ob_140), .unset, .unset] [(.ref ob_140)])) rfl (by rw [hml]; rfl) (Steps.refl _) (argsL := []) (rest := []) (lenOf pd10 rfl) rfl (by show 2 * 0 + _ ≤ _; exact Nat.le_of_eq rfl) (hb hby at_100) (fun _ _ => ⟨rfl, rfl, (by decide : 2 + 0 ≤ _), (by decide : 8 + 0 ≤ _)⟩)
    dsimp only [Pt.U, Pt.locs, Pt.cells, Pt.slots] at X143 l143 y143 z143 st143 hQ143
    subst l143 y143 z143
    obtain ⟨rfl, N143q, eq143⟩ := hQ143
    have N143 := Fr.app N140 N143q
    refine own_tr st143 ?_
    show own_Got p e below _ T143 (mkF m 103 #[.val (.int x0), .val (.int x1), .val (.int x2), .val (.int x3), .val (.int x4), .val r_75, .val .null, .val r_132, .val r_133, .val (.ref b134), .val (.ref ob_140), .unset, .unset] [r_75])
    refine g_aload X143 hx hby at_103 rfl q75_0 (rfl : 103 + 2 = 105) ?_
    refine g_acmp X143 hx hby (pc' := 108) true at_105 q75_0 q75_0 (decide_eq_true rfl) (by decide) (by decide) ?_
    refine g_aload X143 hx hby at_108 rfl rfl (rfl : 108 + 2 = 110) ?_
    obtain ⟨cq144, kq144, q144a, q144b, q144c⟩ := isOf hZ eq143 q140_1
    obtain ⟨_, _, ⟨T144, L144, k144, n144⟩, -, X144, ⟨Lc144, hQ144, l144, y144, z144⟩, st144⟩ := X143.virtualBack hx (y := (⟨"com/example/farshard/farshard/store/Link", "remote", "()Ljava/lang/String;"⟩ : MethodName)) (z := (⟨"com/example/farshard/farshard/store/Link", "remote", "()Ljava/lang/String;"⟩ : MethodName)) hown (mvT hZ (hw _ (List.mem_of_getElem? (i := 78) rfl))) (mvT hZ (hw _ (List.mem_of_getElem? (i := 79) rfl))) (notFace_of_selects (args := #[]) (mvT hZ (hw _ (List.mem_of_getElem? (i := 81) rfl)))) (mvT hZ (hw _ (List.mem_of_getElem? (i := 81) rfl))) (mvT hZ (hw _ (List.mem_of_getElem? (i := 80) rfl))) (by decide) (backOf (W := 0) (rm_g_remote l Z aT hw [] ob_140 .null T140.heap n0 Z140 q140_3 rfl) hZ (hw _ (List.mem_of_getElem? (i := 82) rfl)) (hw _ (List.mem_of_getElem? (i := 48) rfl)) (by decide) (by decide)) q144a q144c (g := (mkF m 110 #[.val (.int x0), .val (.int x1), .val (.int x2), .val (.int x3), .val (.int x4), .val r_75, .val .null, .val r_132, .val r_133, .val (.ref b134), .val (.ref ob_140), .unset, .unset] [(.ref ob_140)])) rfl (by rw [hml]; rfl) (Steps.refl _) (argsL := []) (rest := []) (lenOf pd11 rfl) rfl (by show 2 * 0 + _ ≤ _; exact Nat.le_of_eq rfl) (hb hby at_110) (fun _ _ => ⟨rfl, eq143, (by decide : 2 + 0 ≤ _), (by decide : 8 + 0 ≤ _)⟩)
    dsimp only [Pt.U, Pt.locs, Pt.cells, Pt.slots] at X144 l144 y144 z144 st144 hQ144
    subst l144 y144 z144
    obtain ⟨rfl, N144q, eq144⟩ := hQ144
    have N144 := Fr.app N143 N144q
    refine own_tr st144 ?_
    show own_Got p e below _ T144 (mkF m 113 #[.val (.int x0), .val (.int x1), .val (.int x2), .val (.int x3), .val (.int x4), .val r_75, .val .null, .val r_132, .val r_133, .val (.ref b134), .val (.ref ob_140), .unset, .unset] [.null])
    refine g_aload X144 hx hby at_113 rfl rfl (rfl : 113 + 2 = 115) ?_
    refine g_acmp X144 hx hby (pc' := 118) true at_115 rfl rfl (decide_eq_true rfl) (by decide) (by decide) ?_
    refine g_aload X144 hx hby at_118 rfl rfl (rfl : 118 + 2 = 120) ?_
    obtain ⟨cq145, kq145, q145a, q145b, q145c⟩ := isOf hZ eq144 q140_1
    obtain ⟨_, _, ⟨T145, L145, k145, n145⟩, -, X145, ⟨Lc145, hQ145, l145, y145, z145⟩, st145⟩ := X144.virtualBack hx (y := (⟨"com/example/farshard/farshard/store/Link", "mode", "()Lcom/example/farshard/farshard/store/Link$Mode;"⟩ : MethodName)) (z := (⟨"com/example/farshard/farshard/store/Link", "mode", "()Lcom/example/farshard/farshard/store/Link$Mode;"⟩ : MethodName)) hown (mvT hZ (hw _ (List.mem_of_getElem? (i := 83) rfl))) (mvT hZ (hw _ (List.mem_of_getElem? (i := 84) rfl))) (notFace_of_selects (args := #[]) (mvT hZ (hw _ (List.mem_of_getElem? (i := 86) rfl)))) (mvT hZ (hw _ (List.mem_of_getElem? (i := 86) rfl))) (mvT hZ (hw _ (List.mem_of_getElem? (i := 85) rfl))) (by decide) (backOf (W := 0) (rm_g_mode l Z aT hw [] ob_140 T140.heap n0 Z140 q140_4) hZ (hw _ (List.mem_of_getElem? (i := 87) rfl)) (hw _ (List.mem_of_getElem? (i := 48) rfl)) (by decide) (by decide)) q145a q145c (g := (mkF m 120 #[.val (.int x0), .val (.int x1), .val (.int x2), .val (.int x3), .val (.int x4), .val r_75, .val .null, .val r_132, .val r_133, .val (.ref b134), .val (.ref ob_140), .unset, .unset] [(.ref ob_140)])) rfl (by rw [hml]; rfl) (Steps.refl _) (argsL := []) (rest := []) (lenOf pd12 rfl) rfl (by show 2 * 0 + _ ≤ _; exact Nat.le_of_eq rfl) (hb hby at_120) (fun _ _ => ⟨rfl, eq144, (by decide : 2 + 0 ≤ _), (by decide : 8 + 0 ≤ _)⟩)
    dsimp only [Pt.U, Pt.locs, Pt.cells, Pt.slots] at X145 l145 y145 z145 st145 hQ145
    subst l145 y145 z145
    obtain ⟨rfl, N145q, eq145⟩ := hQ145
    have N145 := Fr.app N144 N145q
    refine own_tr st145 ?_
    show own_Got p e below _ T145 (mkF m 123 #[.val (.int x0), .val (.int x1), .val (.int x2), .val (.int x3), .val (.int x4), .val r_75, .val .null, .val r_132, .val r_133, .val (.ref b134), .val (.ref ob_140), .unset, .unset] [.null])
    refine g_innF X145 hx hby at_123 (rfl : 123 + 3 = 126) ?_
    refine g_aload X145 hx hby at_126 rfl rfl (rfl : 126 + 2 = 128) ?_
    obtain ⟨cq146, kq146, q146a, q146b, q146c⟩ := isOf hZ eq145 q140_1
    obtain ⟨_, _, ⟨T146, L146, k146, n146⟩, -, X146, ⟨Lc146, hQ146, l146, y146, z146⟩, st146⟩ := X145.virtualBack hx (y := (⟨"com/example/farshard/farshard/store/Link", "state", "()Lcom/example/farshard/farshard/store/Link$State;"⟩ : MethodName)) (z := (⟨"com/example/farshard/farshard/store/Link", "state", "()Lcom/example/farshard/farshard/store/Link$State;"⟩ : MethodName)) hown (mvT hZ (hw _ (List.mem_of_getElem? (i := 88) rfl))) (mvT hZ (hw _ (List.mem_of_getElem? (i := 89) rfl))) (notFace_of_selects (args := #[]) (mvT hZ (hw _ (List.mem_of_getElem? (i := 91) rfl)))) (mvT hZ (hw _ (List.mem_of_getElem? (i := 91) rfl))) (mvT hZ (hw _ (List.mem_of_getElem? (i := 90) rfl))) (by decide) (backOf (W := 0) (rm_g_state l Z aT hw [] ob_140 r_133 T140.heap n0 Z140 q140_5 q133_0) hZ (hw _ (List.mem_of_getElem? (i := 92) rfl)) (hw _ (List.mem_of_getElem? (i := 48) rfl)) (by decide) (by decide)) q146a q146c (g := (mkF m 128 #[.val (.int x0), .val (.int x1), .val (.int x2), .val (.int x3), .val (.int x4), .val r_75, .val .null, .val r_132, .val r_133, .val (.ref b134), .val (.ref ob_140), .unset, .unset] [(.ref ob_140)])) rfl (by rw [hml]; rfl) (Steps.refl _) (argsL := []) (rest := []) (lenOf pd13 rfl) rfl (by show 2 * 0 + _ ≤ _; exact Nat.le_of_eq rfl) (hb hby at_128) (fun _ _ => ⟨rfl, eq145, (by decide : 2 + 0 ≤ _), (by decide : 8 + 0 ≤ _)⟩)
    dsimp only [Pt.U, Pt.locs, Pt.cells, Pt.slots] at X146 l146 y146 z146 st146 hQ146
    subst l146 y146 z146
    obtain ⟨rfl, N146q, eq146⟩ := hQ146
    have N146 := Fr.app N145 N146q
    refine own_tr st146 ?_
    show own_Got p e below _ T146 (mkF m 131 #[.val (.int x0), .val (.int x1), .val (.int x2), .val (.int x3), .val (.int x4), .val r_75, .val .null, .val r_132, .val r_133, .val (.ref b134), .val (.ref ob_140), .unset, .unset] [r_133])
    refine g_aload X146 hx hby at_131 rfl q133_0 (rfl : 131 + 2 = 133) ?_
    refine g_acmp X146 hx hby (pc' := 136) true at_133 q133_0 q133_0 (decide_eq_true rfl) (by decide) (by decide) ?_
    refine g_iconst X146 hx hby (1 : Int32) at_136 (by decide) (rfl : 136 + 1 = 137) ?_
    refine g_goto X146 hx hby at_137 (by decide) (pc' := 141) (by decide) ?_
    refine g_istore X146 hx hby #[.val (.int x0), .val (.int x1), .val (.int x2), .val (.int x3), .val (.int x4), .val r_75, .val .null, .val r_132, .val r_133, .val (.ref b134), .val (.ref ob_140), .val (.int (1 : Int32)), .unset] at_141 rfl (rfl : 141 + 2 = 143) ?_
    refine g_aload X146 hx hby at_143 rfl rfl (rfl : 143 + 2 = 145) ?_
    have f148 : Fld Z T140.heap b134 "com/example/farshard/farshard/store/Link" "role" "Lcom/example/farshard/farshard/store/Link$Role;" r_75 := (Fld.keep q139_1 K140 nin0)
    have f149 : Exa Z T140.heap b134 "com/example/farshard/farshard/store/Link" := (Exa.keep q139_0 K140)
    obtain ⟨cq147, kq147, q147a, q147b, q147c⟩ := isOf hZ eq146 f149
    obtain ⟨_, _, ⟨T147, L147, k147, n147⟩, -, X147, ⟨Lc147, hQ147, l147, y147, z147⟩, st147⟩ := X146.virtualBack hx (y := (⟨"com/example/farshard/farshard/store/Link", "role", "()Lcom/example/farshard/farshard/store/Link$Role;"⟩ : MethodName)) (z := (⟨"com/example/farshard/farshard/store/Link", "role", "()Lcom/example/farshard/farshard/store/Link$Role;"⟩ : MethodName)) hown (mvT hZ (hw _ (List.mem_of_getElem? (i := 73) rfl))) (mvT hZ (hw _ (List.mem_of_getElem? (i := 74) rfl))) (notFace_of_selects (args := #[]) (mvT hZ (hw _ (List.mem_of_getElem? (i := 76) rfl)))) (mvT hZ (hw _ (List.mem_of_getElem? (i := 76) rfl))) (mvT hZ (hw _ (List.mem_of_getElem? (i := 75) rfl))) (by decide) (backOf (W := 0) (rm_g_role l Z aT hw [] b134 r_75 T140.heap n0 Z140 f148 q75_0) hZ (hw _ (List.mem_of_getElem? (i := 77) rfl)) (hw _ (List.mem_of_getElem? (i := 48) rfl)) (by decide) (by decide)) q147a q147c (g := (mkF m 145 #[.val (.int x0), .val (.int x1), .val (.int x2), .val (.int x3), .val (.int x4), .val r_75, .val .null, .val r_132, .val r_133, .val (.ref b134), .val (.ref ob_140), .val (.int (1 : Int32)), .unset] [(.ref b134)])) rfl (by rw [hml]; rfl) (Steps.refl _) (argsL := []) (rest := []) (lenOf pd10 rfl) rfl (by show 2 * 0 + _ ≤ _; exact Nat.le_of_eq rfl) (hb hby at_145) (fun _ _ => ⟨rfl, eq146, (by decide : 2 + 0 ≤ _), (by decide : 8 + 0 ≤ _)⟩)
    dsimp only [Pt.U, Pt.locs, Pt.cells, Pt.slots] at X147 l147 y147 z147 st147 hQ147
    subst l147 y147 z147
    obtain ⟨rfl, N147q, eq147⟩ := hQ147
    have N147 := Fr.app N146 N147q
    refine own_tr st147 ?_
    show own_Got p e below _ T147 (mkF m 148 #[.val (.int x0), .val (.int x1), .val (.int x2), .val (.int x3), .val (.int x4), .val r_75, .val .null, .val r_132, .val r_133, .val (.ref b134), .val (.ref ob_140), .val (.int (1 : Int32)), .unset] [r_75])
    refine g_aload X147 hx hby at_148 rfl q75_0 (rfl : 148 + 2 = 150) ?_
    refine g_acmp X147 hx hby (pc' := 153) true at_150 q75_0 q75_0 (decide_eq_true rfl) (by decide) (by decide) ?_
    refine g_aload X147 hx hby at_153 rfl rfl (rfl : 153 + 2 = 155) ?_
    have f151 : Fld Z T140.heap b134 "com/example/farshard/farshard/store/Link" "remote" "Ljava/lang/String;" .null := (Fld.keep q139_2 K140 nin0)
    obtain ⟨cq150, kq150, q150a, q150b, q150c⟩ := isOf hZ eq147 f149
    obtain ⟨_, _, ⟨T150, L150, k150, n150⟩, -, X150, ⟨Lc150, hQ150, l150, y150, z150⟩, st150⟩ := X147.virtualBack hx (y := (⟨"com/example/farshard/farshard/store/Link", "remote", "()Ljava/lang/String;"⟩ : MethodName)) (z := (⟨"com/example/farshard/farshard/store/Link", "remote", "()Ljava/lang/String;"⟩ : MethodName)) hown (mvT hZ (hw _ (List.mem_of_getElem? (i := 78) rfl))) (mvT hZ (hw _ (List.mem_of_getElem? (i := 79) rfl))) (notFace_of_selects (args := #[]) (mvT hZ (hw _ (List.mem_of_getElem? (i := 81) rfl)))) (mvT hZ (hw _ (List.mem_of_getElem? (i := 81) rfl))) (mvT hZ (hw _ (List.mem_of_getElem? (i := 80) rfl))) (by decide) (backOf (W := 0) (rm_g_remote l Z aT hw [] b134 .null T140.heap n0 Z140 f151 rfl) hZ (hw _ (List.mem_of_getElem? (i := 82) rfl)) (hw _ (List.mem_of_getElem? (i := 48) rfl)) (by decide) (by decide)) q150a q150c (g := (mkF m 155 #[.val (.int x0), .val (.int x1), .val (.int x2), .val (.int x3), .val (.int x4), .val r_75, .val .null, .val r_132, .val r_133, .val (.ref b134), .val (.ref ob_140), .val (.int (1 : Int32)), .unset] [(.ref b134)])) rfl (by rw [hml]; rfl) (Steps.refl _) (argsL := []) (rest := []) (lenOf pd11 rfl) rfl (by show 2 * 0 + _ ≤ _; exact Nat.le_of_eq rfl) (hb hby at_155) (fun _ _ => ⟨rfl, eq147, (by decide : 2 + 0 ≤ _), (by decide : 8 + 0 ≤ _)⟩)
    dsimp only [Pt.U, Pt.locs, Pt.cells, Pt.slots] at X150 l150 y150 z150 st150 hQ150
    subst l150 y150 z150
    obtain ⟨rfl, N150q, eq150⟩ := hQ150
    have N150 := Fr.app N147 N150q
    refine own_tr st150 ?_
    show own_Got p e below _ T150 (mkF m 158 #[.val (.int x0), .val (.int x1), .val (.int x2), .val (.int x3), .val (.int x4), .val r_75, .val .null, .val r_132, .val r_133, .val (.ref b134), .val (.ref ob_140), .val (.int (1 : Int32)), .unset] [.null])
    refine g_aload X150 hx hby at_158 rfl rfl (rfl : 158 + 2 = 160) ?_
    refine g_acmp X150 hx hby (pc' := 163) true at_160 rfl rfl (decide_eq_true rfl) (by decide) (by decide) ?_
    refine g_aload X150 hx hby at_163 rfl rfl (rfl : 163 + 2 = 165) ?_
    have f153 : Fld Z T140.heap b134 "com/example/farshard/farshard/store/Link" "mode" "Lcom/example/farshard/farshard/store/Link$Mode;" .null := (Fld.keep q139_3 K140 nin0)
    obtain ⟨cq152, kq152, q152a, q152b, q152c⟩ := isOf hZ eq150 f149
    obtain ⟨_, _, ⟨T152, L152, k152, n152⟩, -, X152, ⟨Lc152, hQ152, l152, y152, z152⟩, st152⟩ := X150.virtualBack hx (y := (⟨"com/example/farshard/farshard/store/Link", "mode", "()Lcom/example/farshard/farshard/store/Link$Mode;"⟩ : MethodName)) (z := (⟨"com/example/farshard/farshard/store/Link", "mode", "()Lcom/example/farshard/farshard/store/Link$Mode;"⟩ : MethodName)) hown (mvT hZ (hw _ (List.mem_of_getElem? (i := 83) rfl))) (mvT hZ (hw _ (List.mem_of_getElem? (i := 84) rfl))) (notFace_of_selects (args := #[]) (mvT hZ (hw _ (List.mem_of_getElem? (i := 86) rfl)))) (mvT hZ (hw _ (List.mem_of_getElem? (i := 86) rfl))) (mvT hZ (hw _ (List.mem_of_getElem? (i := 85) rfl))) (by decide) (backOf (W := 0) (rm_g_mode l Z aT hw [] b134 T140.heap n0 Z140 f153) hZ (hw _ (List.mem_of_getElem? (i := 87) rfl)) (hw _ (List.mem_of_getElem? (i := 48) rfl)) (by decide) (by decide)) q152a q152c (g := (mkF m 165 #[.val (.int x0), .val (.int x1), .val (.int x2), .val (.int x3), .val (.int x4), .val r_75, .val .null, .val r_132, .val r_133, .val (.ref b134), .val (.ref ob_140), .val (.int (1 : Int32)), .unset] [(.ref b134)])) rfl (by rw [hml]; rfl) (Steps.refl _) (argsL := []) (rest := []) (lenOf pd12 rfl) rfl (by show 2 * 0 + _ ≤ _; exact Nat.le_of_eq rfl) (hb hby at_165) (fun _ _ => ⟨rfl, eq150, (by decide : 2 + 0 ≤ _), (by decide : 8 + 0 ≤ _)⟩)
    dsimp only [Pt.U, Pt.locs, Pt.cells, Pt.slots] at X152 l152 y152 z152 st152 hQ152
    subst l152 y152 z152
    obtain ⟨rfl, N152q, eq152⟩ := hQ152
    have N152 := Fr.app N150 N152q
    refine own_tr st152 ?_
    show own_Got p e below _ T152 (mkF m 168 #[.val (.int x0), .val (.int x1), .val (.int x2), .val (.int x3), .val (.int x4), .val r_75, .val .null, .val r_132, .val r_133, .val (.ref b134), .val (.ref ob_140), .val (.int (1 : Int32)), .unset] [.null])
    refine g_innF X152 hx hby at_168 (rfl : 168 + 3 = 171) ?_
    refine g_aload X152 hx hby at_171 rfl rfl (rfl : 171 + 2 = 173) ?_
    have f155 : Fld Z T140.heap b134 "com/example/farshard/farshard/store/Link" "state" "Lcom/example/farshard/farshard/store/Link$State;" r_132 := (Fld.keep q139_4 K140 nin0)
    obtain ⟨cq154, kq154, q154a, q154b, q154c⟩ := isOf hZ eq152 f149
    obtain ⟨_, _, ⟨T154, L154, k154, n154⟩, -, X154, ⟨Lc154, hQ154, l154, y154, z154⟩, st154⟩ := X152.virtualBack hx (y := (⟨"com/example/farshard/farshard/store/Link", "state", "()Lcom/example/farshard/farshard/store/Link$State;"⟩ : MethodName)) (z := (⟨"com/example/farshard/farshard/store/Link", "state", "()Lcom/example/farshard/farshard/store/Link$State;"⟩ : MethodName)) hown (mvT hZ (hw _ (List.mem_of_getElem? (i := 88) rfl))) (mvT hZ (hw _ (List.mem_of_getElem? (i := 89) rfl))) (notFace_of_selects (args := #[]) (mvT hZ (hw _ (List.mem_of_getElem? (i := 91) rfl)))) (mvT hZ (hw _ (List.mem_of_getElem? (i := 91) rfl))) (mvT hZ (hw _ (List.mem_of_getElem? (i := 90) rfl))) (by decide) (backOf (W := 0) (rm_g_state l Z aT hw [] b134 r_132 T140.heap n0 Z140 f155 q132_0) hZ (hw _ (List.mem_of_getElem? (i := 92) rfl)) (hw _ (List.mem_of_getElem? (i := 48) rfl)) (by decide) (by decide)) q154a q154c (g := (mkF m 173 #[.val (.int x0), .val (.int x1), .val (.int x2), .val (.int x3), .val (.int x4), .val r_75, .val .null, .val r_132, .val r_133, .val (.ref b134), .val (.ref ob_140), .val (.int (1 : Int32)), .unset] [(.ref b134)])) rfl (by rw [hml]; rfl) (Steps.refl _) (argsL := []) (rest := []) (lenOf pd13 rfl) rfl (by show 2 * 0 + _ ≤ _; exact Nat.le_of_eq rfl) (hb hby at_173) (fun _ _ => ⟨rfl, eq152, (by decide : 2 + 0 ≤ _), (by decide : 8 + 0 ≤ _)⟩)
    dsimp only [Pt.U, Pt.locs, Pt.cells, Pt.slots] at X154 l154 y154 z154 st154 hQ154
    subst l154 y154 z154
    obtain ⟨rfl, N154q, eq154⟩ := hQ154
    have N154 := Fr.app N152 N154q
    refine own_tr st154 ?_
    show own_Got p e below _ T154 (mkF m 176 #[.val (.int x0), .val (.int x1), .val (.int x2), .val (.int x3), .val (.int x4), .val r_75, .val .null, .val r_132, .val r_133, .val (.ref b134), .val (.ref ob_140), .val (.int (1 : Int32)), .unset] [r_132])
    refine g_aload X154 hx hby at_176 rfl q132_0 (rfl : 176 + 2 = 178) ?_
    refine g_acmp X154 hx hby (pc' := 181) true at_178 q132_0 q132_0 (decide_eq_true rfl) (by decide) (by decide) ?_
    refine g_iconst X154 hx hby (1 : Int32) at_181 (by decide) (rfl : 181 + 1 = 182) ?_
    refine g_goto X154 hx hby at_182 (by decide) (pc' := 186) (by decide) ?_
    refine g_istore X154 hx hby #[.val (.int x0), .val (.int x1), .val (.int x2), .val (.int x3), .val (.int x4), .val r_75, .val .null, .val r_132, .val r_133, .val (.ref b134), .val (.ref ob_140), .val (.int (1 : Int32)), .val (.int (1 : Int32))] at_186 rfl (rfl : 186 + 2 = 188) ?_
    refine g_iload X154 hx hby at_188 rfl (rfl : 188 + 2 = 190) ?_
    refine g_ifF X154 hx hby at_190 ((if0 _ _).trans (feq (by decide : ¬ ((1 : Int32) = (0 : Int32)))).1) (rfl : 190 + 3 = 193) ?_
    refine g_iload X154 hx hby at_193 rfl (rfl : 193 + 2 = 195) ?_
    refine g_ifF X154 hx hby at_195 ((if0 _ _).trans (feq (by decide : ¬ ((1 : Int32) = (0 : Int32)))).1) (rfl : 195 + 3 = 198) ?_
    refine g_iconst X154 hx hby (1 : Int32) at_198 (by decide) (rfl : 198 + 1 = 199) ?_
    refine g_goto X154 hx hby at_199 (by decide) (pc' := 203) (by decide) ?_
    refine own_retN X154 hx hby hlk (t := .boolean) hrt (by simp) at_203 (by decide) (by decide) ?_
    show Q_law Z x0 x1 x2 x3 x4 wL wF wR wG wB g1 h0 n0 _ T154.heap _
    exact ⟨rfl, N154⟩
set_option maxRecDepth 65536 in
set_option maxHeartbeats 40000000 in
theorem comes_1 {Post : Tables → Env → Array Value → State → Outcome → State → Prop} (hpost : ∀ tb e args s v u, (limb_1_1.after args s (.returned v) u = true ∧ limb_1_2.after args s (.returned v) u = true ∧ True) → FrameEnd s (.returned v) u (Jvm.fieldLocs frame_1_writes args s ++ Jvm.arrayLocs frame_1_arrays args s ++ Jvm.staticLocs frame_1_statics s) 24 128 → Post tb e args s (.returned v) u) :
    ArmFor flags0 classFile x code maxLocals ret World_1 tables_1 room_1 Calls_1 rest_1 Pre_1 Post := by
  intro l hfl _ _ p e ha hc hk s m args below hf hA hF happ hP
  obtain ⟨hcalls, hrest, hpre⟩ := hP
  obtain ⟨-, -, -, hnamed, -, -, -, hat⟩ := (Spec.applies_iff hf).mp happ
  obtain ⟨hg, hn⟩ := and_e (Cond.before_iff.mp (show (Jvm.Cond.and given_1 narrow_1).before args s = true from hpre))
  obtain ⟨hcnt, hg0⟩ := and_e hg
  obtain ⟨ha0, hg1⟩ := and_e hg0
  obtain ⟨ha1, hg2⟩ := and_e hg1
  obtain ⟨ha2, hg3⟩ := and_e hg2
  obtain ⟨ha3, hg4⟩ := and_e hg3
  obtain ⟨w0, w1, w2, w3, w4, rfl⟩ : ∃ w0 w1 w2 w3 w4 : Value, args = #[w0, w1, w2, w3, w4] := by
    have hs : args.size = 5 := by simpa [Cond.value, given_1] using hcnt
    obtain ⟨L⟩ := args
    match L, hs with
    | [w0, w1, w2, w3, w4], _ => exact ⟨w0, w1, w2, w3, w4, rfl⟩
  have hw := fun d (hd : d ∈ tables_1) => atoms_spec (ws := Jvm.Cond.code x code maxLocals ret :: tables_1) hat d (List.mem_cons_of_mem _ hd)
  have hfit : Fit s := fun {y c} hc i hi => by
    obtain ⟨ha, rfl⟩ := Array.getElem?_eq_some_iff.mp hc
    have q := List.all_eq_true.mp ((Array.all_eq_true_iff_forall_mem.mp hF) _ (Array.getElem_mem ha)) i (List.mem_range.mpr hi)
    simpa [Array.getElem?_eq_getElem hi] using q
  obtain ⟨i0, ei0⟩ := is_v ha0
  obtain rfl : w0 = (.int i0) := Option.some.inj ei0
  obtain ⟨i1, ei1⟩ := is_v ha1
  obtain rfl : w1 = (.int i1) := Option.some.inj ei1
  obtain ⟨i2, ei2⟩ := is_v ha2
  obtain rfl : w2 = (.int i2) := Option.some.inj ei2
  obtain ⟨i3, ei3⟩ := is_v ha3
  obtain rfl : w3 = (.int i3) := Option.some.inj ei3
  obtain ⟨i4, ei4⟩ := is_v hg4
  obtain rfl : w4 = (.int i4) := Option.some.inj ei4
  obtain ⟨nn0, nr0⟩ := and_e hn
  obtain ⟨nn1, nr1⟩ := and_e nr0
  obtain ⟨nn2, nr2⟩ := and_e nr1
  obtain ⟨nn3, nr3⟩ := and_e nr2
  obtain ⟨r_Role_LEADER, ev_Role_LEADER⟩ := exa_v nn0
  have S_Role_LEADER := Sta.start ev_Role_LEADER (Or.inr ⟨hw _ (List.mem_of_getElem? (i := 5) rfl), hw _ (List.mem_of_getElem? (i := 6) rfl)⟩)
  have A_Role_LEADER := Exa.start ev_Role_LEADER nn0
  obtain ⟨r_State_FOLLOWING, ev_State_FOLLOWING⟩ := exa_v nn1
  have S_State_FOLLOWING := Sta.start ev_State_FOLLOWING (Or.inr ⟨hw _ (List.mem_of_getElem? (i := 42) rfl), hw _ (List.mem_of_getElem? (i := 43) rfl)⟩)
  have A_State_FOLLOWING := Exa.start ev_State_FOLLOWING nn1
  obtain ⟨r_State_RECOVERING, ev_State_RECOVERING⟩ := exa_v nn2
  have S_State_RECOVERING := Sta.start ev_State_RECOVERING (Or.inr ⟨hw _ (List.mem_of_getElem? (i := 42) rfl), hw _ (List.mem_of_getElem? (i := 45) rfl)⟩)
  have A_State_RECOVERING := Exa.start ev_State_RECOVERING nn2
  obtain ⟨r_State_BROKEN, ev_State_BROKEN⟩ := exa_v nn3
  have S_State_BROKEN := Sta.start ev_State_BROKEN (Or.inr ⟨hw _ (List.mem_of_getElem? (i := 42) rfl), hw _ (List.mem_of_getElem? (i := 94) rfl)⟩)
  have A_State_BROKEN := Exa.start ev_State_BROKEN nn3
  obtain ⟨r_Role_FOLLOWER, ev_Role_FOLLOWER⟩ := exa_v nr3
  have S_Role_FOLLOWER := Sta.start ev_Role_FOLLOWER (Or.inr ⟨hw _ (List.mem_of_getElem? (i := 5) rfl), hw _ (List.mem_of_getElem? (i := 96) rfl)⟩)
  have A_Role_FOLLOWER := Exa.start ev_Role_FOLLOWER nr3
  obtain ⟨hsets, hown0⟩ := atoms_of _ (rest_1_c_eq ▸ (show rest_1_c.before _ s = true from hrest))
  obtain ⟨G1, evG1⟩ := is_v (Cond.before_iff.mp (hsets _ (List.mem_of_getElem? (i := 1) rfl)))
  have SG1 := Sta.start evG1 (Or.inl (hsets _ (List.mem_of_getElem? (i := 0) rfl)))
  have NG1 : ¬ (G1 = (0 : Int32)) := gotF (Cond.eq_ints evG1 rfl) (not_v (Cond.before_iff.mp (hsets _ (List.mem_of_getElem? (i := 2) rfl))))
  obtain ⟨n, o, h1, h2, h3, _, L, rfl, ⟨hv, N⟩, hq⟩ := rm_law l s _ hw tables_1 i0 i1 i2 i3 i4 r_Role_LEADER r_Role_FOLLOWER r_State_RECOVERING r_State_FOLLOWING r_State_BROKEN G1 s.heap s.heap.size (Nat.le_refl _) S_Role_LEADER S_Role_FOLLOWER S_State_RECOVERING S_State_FOLLOWING S_State_BROKEN SG1 NG1 p e ha hc hk s m _ below hf ((Spec.applies_iff_loose hf).mp happ).1 ⟨rfl, State.Warmed39.refl s, rfl⟩ trivial
  subst hv
  refine ⟨n, _, h1, h2, h3, hpost _ _ _ _ _ _ ⟨Cond.after_iff.mpr rfl, Cond.after_iff.mpr (eq_i res_at (Term.int_eval (1)) rfl), trivial⟩ ⟨hq.1, hq.2.1, (hq.2.2.sift fun y hy => Or.inr (N y hy)).mono (by decide) (by decide)⟩⟩
theorem main_1_1 : Claimed_1_1 := comes_1 fun _ _ _ _ _ _ h hF => ⟨h.1, hF⟩
theorem main_1_2 : Claimed_1_2 := comes_1 fun _ _ _ _ _ _ h hF => ⟨h.2.1, hF⟩
end Jvm.Pilot.@@N@@
namespace Jvm.Pilot.@@N@@
open Jvm Jvm.ClassFile Sem Op Lib Jvm.Free Jvm.Stand Jvm.Pilot.@@N@@.Jvm.D
/-! MADE BY PROGRAM (witnessworld.py) out of the Statement's table words and the real class files: 24 classes; the members and pool entries that the words name. The judged class is class 1, her method 3. -/
namespace start1
open Jvm.ClassFile
def u (s : String) : CpInfo := .utf8 (stringToUtf16 s)
/-- a pool by its gaps: so many unusable entries, then the entry; so many at the end -/
def gap : Nat → List CpInfo → List CpInfo
  | 0, r => r
  | n + 1, r => .unusable :: gap n r
def poolList (es : List (Nat × CpInfo)) (last : Nat) : List CpInfo := es.foldr (fun e r => gap e.1 (e.2 :: r)) (gap last [])
def pool (es : List (Nat × CpInfo)) (last : Nat) : Array CpInfo := ⟨poolList es last⟩
def fileOf (pool : Array CpInfo) (this : Nat) (attrs : Array Attribute := #[]) (ms : Array MethodInfo := #[]) (fl : Nat := 33) (sup : Nat := 0) (ifs : Array Nat := #[]) (fds : Array FieldInfo := #[]) : ClassFile where
  minorVersion := 0
  majorVersion := 65
  constantPool := pool
  accessFlags := fl
  thisClass := this
  superClass := sup
  interfaces := ifs
  fields := fds
  methods := ms
  attributes := attrs
def plain (name : String) (sup : Option ClassId) : Class where
  name := name
  kind := .ordinary
  loader := none
  accessFlags := 33
  super := sup
  interfaces := #[]
  cf := none
  fields := #[]
  methods := #[]
  instanceTypes := #[]
  staticTypes := #[]
  resolved := #[]
  callSites := []
  init := .initialized
  statics := none
  mirror := none

def pool0 : Array CpInfo := pool [(5, u "<init>"), (0, u "()V"), (1, .class_ 10), (1, u "java/lang/Object")] 113

def k0c0 : Code := { maxStack := 0, maxLocals := 1, code := object_method_1_code, exceptionTable := #[], attributes := #[] }
def k0m0 : Method := { name := "<init>", desc := "()V", sig := { parameters := [], returnType := none }, accessFlags := 1, code := some k0c0 }
/-- java/lang/Object -/
def k0 : Class := { plain "java/lang/Object" none with
  accessFlags := 33
  interfaces := #[]
  cf := some (fileOf pool0 8 #[] #[{ accessFlags := 1, nameIndex := 5, descriptorIndex := 6, attributes := #[] }] 33 0 #[] #[])
  fields := #[]
  methods := #[k0m0]
  instanceTypes := #[]
  staticTypes := #[]
  resolved := Array.replicate 124 none
  statics := none }

def pool1 : Array CpInfo := pool [(2, .class_ 4), (1, u "java/lang/Object"), (0, u "<init>"), (0, u "()V"), (0, .integer 2147483647), (0, .fieldref 9 10), (0, .class_ 11), (0, .nameAndType 12 13), (0, u "com/example/farshard/farshard/store/Link$State"), (0, u "RECOVERING"), (0, u "Lcom/example/farshard/farshard/store/Link$State;"), (0, .fieldref 9 15), (0, .nameAndType 16 13), (0, u "FOLLOWING"), (0, .fieldref 9 18), (0, .nameAndType 19 13), (0, u "BROKEN"), (0, .fieldref 21 22), (0, .class_ 23), (0, .nameAndType 24 25), (0, u "com/example/farshard/farshard/store/Link$Role"), (0, u "LEADER"), (0, u "Lcom/example/farshard/farshard/store/Link$Role;"), (0, .fieldref 21 27), (0, .nameAndType 28 25), (0, u "FOLLOWER"), (0, .methodref 30 31), (0, .class_ 32), (0, .nameAndType 33 34), (0, u "com/example/farshard/farshard/store/LinkInPinLaw"), (0, u "role"), (0, u "(I)Lcom/example/farshard/farshard/store/Link$Role;"), (0, .class_ 36), (0, u "java/lang/String"), (0, .methodref 35 38), (0, .nameAndType 5 39), (0, u "([C)V"), (0, .methodref 30 41), (0, .nameAndType 42 43), (0, u "st"), (0, u "(I)Lcom/example/farshard/farshard/store/Link$State;"), (0, .class_ 45), (0, u "com/example/farshard/farshard/store/Link"), (0, .methodref 44 47), (0, .nameAndType 5 48), (0, u "(Lcom/example/farshard/farshard/store/Link$Role;Ljava/lang/String;Lcom/example/farshard/farshard/store/Link$Mode;Lcom/example/farshard/farshard/store/Link$State;)V"), (0, .methodref 44 50), (0, .nameAndType 51 52), (0, u "in"), (0, u "(Lcom/example/farshard/farshard/store/Link$State;)Lcom/example/farshard/farshard/store/Link;"), (0, .methodref 44 54), (0, .nameAndType 33 55), (0, u "()Lcom/example/farshard/farshard/store/Link$Role;"), (0, .methodref 44 57), (0, .nameAndType 58 59), (0, u "remote"), (0, u "()Ljava/lang/String;"), (0, .methodref 44 61), (0, .nameAndType 62 63), (0, u "mode"), (0, u "()Lcom/example/farshard/farshard/store/Link$Mode;"), (0, .methodref 44 65), (0, .nameAndType 66 67), (0, u "state"), (0, u "()Lcom/example/farshard/farshard/store/Link$State;"), (3, u "law"), (0, u "(IIIII)Z")] 8

def k1m0 : Method := { name := "<init>", desc := "()V", sig := { parameters := [], returnType := none }, accessFlags := 1, code := none }
def k1c1 : Code := { maxStack := 2, maxLocals := 2, code := method_2_code, exceptionTable := #[], attributes := #[] }
def k1m1 : Method := { name := "st", desc := "(I)Lcom/example/farshard/farshard/store/Link$State;", sig := { parameters := [.int], returnType := some (.object "com/example/farshard/farshard/store/Link$State") }, accessFlags := 10, code := some k1c1 }
def k1c2 : Code := { maxStack := 2, maxLocals := 2, code := method_3_code, exceptionTable := #[], attributes := #[] }
def k1m2 : Method := { name := "role", desc := "(I)Lcom/example/farshard/farshard/store/Link$Role;", sig := { parameters := [.int], returnType := some (.object "com/example/farshard/farshard/store/Link$Role") }, accessFlags := 10, code := some k1c2 }
def k1c3 : Code := { maxStack := 6, maxLocals := 13, code := code, exceptionTable := #[], attributes := #[] }
def k1m3 : Method := { name := "law", desc := "(IIIII)Z", sig := { parameters := [.int, .int, .int, .int, .int], returnType := some .boolean }, accessFlags := 9, code := some k1c3 }
/-- com/example/farshard/farshard/store/LinkInPinLaw -/
def k1 : Class := { plain "com/example/farshard/farshard/store/LinkInPinLaw" (some 0) with
  accessFlags := 49
  interfaces := #[]
  cf := some (fileOf pool1 30 #[] #[{ accessFlags := 1, nameIndex := 5, descriptorIndex := 6, attributes := #[] }, { accessFlags := 10, nameIndex := 42, descriptorIndex := 43, attributes := #[] }, { accessFlags := 10, nameIndex := 33, descriptorIndex := 34, attributes := #[] }, { accessFlags := 9, nameIndex := 71, descriptorIndex := 72, attributes := #[] }] 49 2 #[] #[])
  fields := #[]
  methods := #[k1m0, k1m1, k1m2, k1m3]
  instanceTypes := #[]
  staticTypes := #[]
  resolved := Array.replicate 81 none
  statics := none }

def pool2 : Array CpInfo := pool [(1, .class_ 2), (0, u "java/lang/constant/Constable"), (0, .class_ 4), (0, u "java/lang/Object")] 6

/-- java/lang/constant/Constable -/
def k2 : Class := { plain "java/lang/constant/Constable" (some 0) with
  accessFlags := 1537
  interfaces := #[]
  cf := some (fileOf pool2 1 #[] #[] 1537 3 #[] #[])
  fields := #[]
  methods := #[]
  instanceTypes := #[]
  staticTypes := #[]
  resolved := Array.replicate 11 none
  statics := none }

def pool3 : Array CpInfo := pool [(1, .class_ 2), (0, u "java/lang/Comparable"), (0, .class_ 4), (0, u "java/lang/Object")] 7

/-- java/lang/Comparable -/
def k3 : Class := { plain "java/lang/Comparable" (some 0) with
  accessFlags := 1537
  interfaces := #[]
  cf := some (fileOf pool3 1 #[] #[] 1537 3 #[] #[])
  fields := #[]
  methods := #[]
  instanceTypes := #[]
  staticTypes := #[]
  resolved := Array.replicate 12 none
  statics := none }

def pool4 : Array CpInfo := pool [(1, .class_ 2), (0, u "java/io/Serializable"), (0, .class_ 4), (0, u "java/lang/Object")] 2

/-- java/io/Serializable -/
def k4 : Class := { plain "java/io/Serializable" (some 0) with
  accessFlags := 1537
  interfaces := #[]
  cf := some (fileOf pool4 1 #[] #[] 1537 3 #[] #[])
  fields := #[]
  methods := #[]
  instanceTypes := #[]
  staticTypes := #[]
  resolved := Array.replicate 7 none
  statics := none }

def pool5 : Array CpInfo := pool [(2, .class_ 4), (1, u "java/lang/Enum"), (0, u "name"), (0, u "Ljava/lang/String;"), (2, u "ordinal"), (0, u "I"), (1, .class_ 14), (1, u "java/lang/Object"), (4, u "hash"), (86, .class_ 108), (1, u "java/lang/Enum$EnumDesc"), (2, .class_ 112), (0, u "java/lang/constant/Constable"), (0, .class_ 114), (0, u "java/lang/Comparable"), (0, .class_ 116), (0, u "java/io/Serializable")] 87

/-- java/lang/Enum -/
def k5 : Class := { plain "java/lang/Enum" (some 0) with
  accessFlags := 1057
  interfaces := #[2, 3, 4]
  cf := some (fileOf pool5 2 #[.nestMembers #[106]] #[] 1057 12 #[111, 113, 115] #[{ accessFlags := 18, nameIndex := 5, descriptorIndex := 6, attributes := #[] }, { accessFlags := 18, nameIndex := 9, descriptorIndex := 10, attributes := #[] }, { accessFlags := 2, nameIndex := 19, descriptorIndex := 10, attributes := #[] }])
  fields := #[{ name := "name", type := (.object "java/lang/String"), accessFlags := 18, slot := 0, constantValue := 0 }, { name := "ordinal", type := .int, accessFlags := 18, slot := 1, constantValue := 0 }, { name := "hash", type := .int, accessFlags := 2, slot := 2, constantValue := 0 }]
  methods := #[]
  instanceTypes := #[(.object "java/lang/String"), .int, .int]
  staticTypes := #[]
  resolved := Array.replicate 204 none
  statics := none }

def pool6 : Array CpInfo := pool [(1, .class_ 2), (0, u "com/example/farshard/farshard/store/Link$Role"), (2, u "LEADER"), (0, u "Lcom/example/farshard/farshard/store/Link$Role;"), (2, u "FOLLOWER"), (2, u "$VALUES"), (0, u "[Lcom/example/farshard/farshard/store/Link$Role;"), (6, .class_ 22), (1, u "java/lang/Enum"), (42, .class_ 66), (0, u "com/example/farshard/farshard/store/Link")] 2

/-- com/example/farshard/farshard/store/Link$Role -/
def k6 : Class := { plain "com/example/farshard/farshard/store/Link$Role" (some 5) with
  accessFlags := 16433
  interfaces := #[]
  cf := some (fileOf pool6 1 #[.nestHost 65] #[] 16433 20 #[] #[{ accessFlags := 16409, nameIndex := 5, descriptorIndex := 6, attributes := #[] }, { accessFlags := 16409, nameIndex := 9, descriptorIndex := 6, attributes := #[] }, { accessFlags := 4122, nameIndex := 12, descriptorIndex := 13, attributes := #[] }])
  fields := #[{ name := "LEADER", type := (.object "com/example/farshard/farshard/store/Link$Role"), accessFlags := 16409, slot := 0, constantValue := 0 }, { name := "FOLLOWER", type := (.object "com/example/farshard/farshard/store/Link$Role"), accessFlags := 16409, slot := 1, constantValue := 0 }, { name := "$VALUES", type := (.array (.object "com/example/farshard/farshard/store/Link$Role")), accessFlags := 4122, slot := 2, constantValue := 0 }]
  methods := #[]
  instanceTypes := #[(.object "java/lang/String"), .int, .int]
  staticTypes := #[(.object "com/example/farshard/farshard/store/Link$Role"), (.object "com/example/farshard/farshard/store/Link$Role"), (.array (.object "com/example/farshard/farshard/store/Link$Role"))]
  resolved := Array.replicate 69 none
  statics := some 0 }

def pool7 : Array CpInfo := pool [(2, .class_ 4), (1, u "java/lang/CharSequence"), (42, .class_ 48), (0, u "java/lang/CharSequence$1CodePointIterator"), (10, .class_ 60), (0, u "java/lang/CharSequence$1CharIterator"), (5, .class_ 67), (0, u "java/lang/Object")] 63

/-- java/lang/CharSequence -/
def k7 : Class := { plain "java/lang/CharSequence" (some 0) with
  accessFlags := 1537
  interfaces := #[]
  cf := some (fileOf pool7 2 #[.nestMembers #[47, 59]] #[] 1537 66 #[] #[])
  fields := #[]
  methods := #[]
  instanceTypes := #[]
  staticTypes := #[]
  resolved := Array.replicate 131 none
  statics := none }

def pool8 : Array CpInfo := pool [(1, .class_ 2), (0, u "java/lang/constant/ConstantDesc"), (0, .class_ 4), (0, u "java/lang/Object")] 32

/-- java/lang/constant/ConstantDesc -/
def k8 : Class := { plain "java/lang/constant/ConstantDesc" (some 0) with
  accessFlags := 1537
  interfaces := #[]
  cf := some (fileOf pool8 1 #[] #[] 1537 3 #[] #[])
  fields := #[]
  methods := #[]
  instanceTypes := #[]
  staticTypes := #[]
  resolved := Array.replicate 37 none
  statics := none }

def pool9 : Array CpInfo := pool [(1, .methodref 2 3), (0, .class_ 4), (0, .nameAndType 5 6), (0, u "java/lang/Object"), (0, u "<init>"), (0, u "()V"), (2, .fieldref 10 11), (0, .class_ 12), (0, .nameAndType 13 14), (0, u "java/lang/String"), (0, u "value"), (0, u "[B"), (0, .fieldref 10 16), (0, .nameAndType 17 18), (0, u "coder"), (0, u "B"), (2, u "hash"), (0, u "I"), (2, u "hashIsZero"), (0, u "Z"), (0, .methodref 10 28), (0, .nameAndType 5 29), (0, u "([CIILjava/lang/Void;)V"), (8, .fieldref 10 39), (0, .nameAndType 40 26), (0, u "COMPACT_STRINGS"), (1, .class_ 44), (1, u "java/lang/StringUTF16"), (0, u "compress"), (1, .methodref 42 48), (0, .nameAndType 49 50), (0, u "coderFromArrayLen"), (0, u "([BI)B"), (126, .methodref 42 178), (0, .nameAndType 45 179), (0, u "([CII)[B"), (395, .class_ 576), (0, u "java/lang/CharSequence"), (22, u "CASE_INSENSITIVE_ORDER"), (0, u "Ljava/util/Comparator;"), (409, u "([C)V"), (90, u "serialPersistentFields"), (0, u "[Ljava/io/ObjectStreamField;"), (0, .class_ 1104), (0, u "java/lang/String$CaseInsensitiveComparator"), (1, .class_ 1107), (0, u "java/io/Serializable"), (0, .class_ 1109), (0, u "java/lang/Comparable"), (0, .class_ 1111), (0, u "java/lang/constant/Constable"), (0, .class_ 1113), (0, u "java/lang/constant/ConstantDesc"), (2, u "serialVersionUID"), (0, u "J"), (3, u "REPL"), (0, u "C"), (2, u "LATIN1"), (1, u "UTF16")] 323

def k9m0 : Method := { name := "<init>", desc := "()V", sig := { parameters := [], returnType := none }, accessFlags := 1, code := none }
def k9c1 : Code := { maxStack := 5, maxLocals := 2, code := jdk_42_method_3_code, exceptionTable := #[], attributes := #[] }
def k9m1 : Method := { name := "<init>", desc := "([C)V", sig := { parameters := [(.array .char)], returnType := none }, accessFlags := 1, code := some k9c1 }
def k9c2 : Code := { maxStack := 4, maxLocals := 6, code := jdk_42_method_149_code, exceptionTable := #[], attributes := #[] }
def k9m2 : Method := { name := "<init>", desc := "([CIILjava/lang/Void;)V", sig := { parameters := [(.array .char), .int, .int, (.object "java/lang/Void")], returnType := none }, accessFlags := 2, code := some k9c2 }
/-- java/lang/String -/
def k9 : Class := { plain "java/lang/String" (some 0) with
  accessFlags := 49
  interfaces := #[4, 3, 7, 2, 8]
  cf := some (fileOf pool9 10 #[.nestMembers #[1103]] #[{ accessFlags := 1, nameIndex := 5, descriptorIndex := 6, attributes := #[] }, { accessFlags := 1, nameIndex := 5, descriptorIndex := 1010, attributes := #[] }, { accessFlags := 2, nameIndex := 5, descriptorIndex := 29, attributes := #[] }] 49 2 #[1106, 1108, 575, 1110, 1112] #[{ accessFlags := 18, nameIndex := 13, descriptorIndex := 14, attributes := #[] }, { accessFlags := 18, nameIndex := 17, descriptorIndex := 18, attributes := #[] }, { accessFlags := 2, nameIndex := 21, descriptorIndex := 22, attributes := #[] }, { accessFlags := 2, nameIndex := 25, descriptorIndex := 26, attributes := #[] }, { accessFlags := 26, nameIndex := 1116, descriptorIndex := 1117, attributes := #[] }, { accessFlags := 24, nameIndex := 40, descriptorIndex := 26, attributes := #[] }, { accessFlags := 26, nameIndex := 1101, descriptorIndex := 1102, attributes := #[] }, { accessFlags := 26, nameIndex := 1121, descriptorIndex := 1122, attributes := #[] }, { accessFlags := 25, nameIndex := 599, descriptorIndex := 600, attributes := #[] }, { accessFlags := 24, nameIndex := 1125, descriptorIndex := 18, attributes := #[] }, { accessFlags := 24, nameIndex := 1127, descriptorIndex := 18, attributes := #[] }])
  fields := #[{ name := "value", type := (.array .byte), accessFlags := 18, slot := 0, constantValue := 0 }, { name := "coder", type := .byte, accessFlags := 18, slot := 1, constantValue := 0 }, { name := "hash", type := .int, accessFlags := 2, slot := 2, constantValue := 0 }, { name := "hashIsZero", type := .boolean, accessFlags := 2, slot := 3, constantValue := 0 }, { name := "serialVersionUID", type := .long, accessFlags := 26, slot := 0, constantValue := 0 }, { name := "COMPACT_STRINGS", type := .boolean, accessFlags := 24, slot := 1, constantValue := 0 }, { name := "serialPersistentFields", type := (.array (.object "java/io/ObjectStreamField")), accessFlags := 26, slot := 2, constantValue := 0 }, { name := "REPL", type := .char, accessFlags := 26, slot := 3, constantValue := 0 }, { name := "CASE_INSENSITIVE_ORDER", type := (.object "java/util/Comparator"), accessFlags := 25, slot := 4, constantValue := 0 }, { name := "LATIN1", type := .byte, accessFlags := 24, slot := 5, constantValue := 0 }, { name := "UTF16", type := .byte, accessFlags := 24, slot := 6, constantValue := 0 }]
  methods := #[k9m0, k9m1, k9m2]
  instanceTypes := #[(.array .byte), .byte, .int, .boolean]
  staticTypes := #[.long, .boolean, (.array (.object "java/io/ObjectStreamField")), .char, (.object "java/util/Comparator"), .byte, .byte]
  resolved := Array.replicate 1451 none
  statics := some 1 }

def pool10 : Array CpInfo := pool [(6, .class_ 8), (1, u "java/lang/Object"), (0, u "<init>"), (0, u "()V"), (1, .class_ 14), (1, u "java/lang/StringUTF16"), (31, u "$assertionsDisabled"), (0, u "Z"), (13, u "HI_BYTE_SHIFT"), (0, u "I"), (2, u "LO_BYTE_SHIFT"), (49, .methodref 12 116), (0, .nameAndType 117 118), (0, u "compress"), (0, u "([CI[BII)I"), (3, u "([CII)[B"), (138, u "coderFromArrayLen"), (0, u "([BI)B"), (106, .class_ 371), (1, u "java/lang/StringUTF16$LinesSpliterator"), (58, u "MAX_LENGTH"), (196, .class_ 628), (0, u "java/lang/StringUTF16$CodePointsSpliterator"), (0, .class_ 630), (0, u "java/lang/StringUTF16$CharsSpliterator")] 4

def k10m0 : Method := { name := "<init>", desc := "()V", sig := { parameters := [], returnType := none }, accessFlags := 0, code := none }
def k10c1 : Code := { maxStack := 2, maxLocals := 2, code := jdk_52_method_15_code, exceptionTable := #[], attributes := #[] }
def k10m1 : Method := { name := "coderFromArrayLen", desc := "([BI)B", sig := { parameters := [(.array .byte), .int], returnType := some .byte }, accessFlags := 8, code := some k10c1 }
def k10c2 : Code := { maxStack := 5, maxLocals := 6, code := jdk_52_method_16_code, exceptionTable := #[], attributes := #[] }
def k10m2 : Method := { name := "compress", desc := "([CII)[B", sig := { parameters := [(.array .char), .int, .int], returnType := some (.array .byte) }, accessFlags := 9, code := some k10c2 }
def k10c3 : Code := { maxStack := 3, maxLocals := 7, code := jdk_52_method_21_code, exceptionTable := #[], attributes := #[] }
def k10m3 : Method := { name := "compress", desc := "([CI[BII)I", sig := { parameters := [(.array .char), .int, (.array .byte), .int, .int], returnType := some .int }, accessFlags := 9, code := some k10c3 }
/-- java/lang/StringUTF16 -/
def k10 : Class := { plain "java/lang/StringUTF16" (some 0) with
  accessFlags := 48
  interfaces := #[]
  cf := some (fileOf pool10 12 #[.nestMembers #[627, 629, 369]] #[{ accessFlags := 0, nameIndex := 9, descriptorIndex := 10, attributes := #[] }, { accessFlags := 8, nameIndex := 261, descriptorIndex := 262, attributes := #[] }, { accessFlags := 9, nameIndex := 117, descriptorIndex := 122, attributes := #[] }, { accessFlags := 9, nameIndex := 117, descriptorIndex := 118, attributes := #[] }] 48 6 #[] #[{ accessFlags := 26, nameIndex := 61, descriptorIndex := 62, attributes := #[] }, { accessFlags := 26, nameIndex := 65, descriptorIndex := 62, attributes := #[] }, { accessFlags := 24, nameIndex := 430, descriptorIndex := 62, attributes := #[] }, { accessFlags := 4120, nameIndex := 46, descriptorIndex := 47, attributes := #[] }])
  fields := #[{ name := "HI_BYTE_SHIFT", type := .int, accessFlags := 26, slot := 0, constantValue := 0 }, { name := "LO_BYTE_SHIFT", type := .int, accessFlags := 26, slot := 1, constantValue := 0 }, { name := "MAX_LENGTH", type := .int, accessFlags := 24, slot := 2, constantValue := 0 }, { name := "$assertionsDisabled", type := .boolean, accessFlags := 4120, slot := 3, constantValue := 0 }]
  methods := #[k10m0, k10m1, k10m2, k10m3]
  instanceTypes := #[]
  staticTypes := #[.int, .int, .int, .boolean]
  resolved := Array.replicate 635 none
  statics := none }

def pool11 : Array CpInfo := pool [(1, .class_ 2), (0, u "com/example/farshard/farshard/store/Link$State"), (2, u "RECOVERING"), (0, u "Lcom/example/farshard/farshard/store/Link$State;"), (2, u "FOLLOWING"), (2, u "BROKEN"), (2, u "$VALUES"), (0, u "[Lcom/example/farshard/farshard/store/Link$State;"), (6, .class_ 25), (1, u "java/lang/Enum"), (53, .class_ 80), (0, u "com/example/farshard/farshard/store/Link")] 2

/-- com/example/farshard/farshard/store/Link$State -/
def k11 : Class := { plain "com/example/farshard/farshard/store/Link$State" (some 5) with
  accessFlags := 16433
  interfaces := #[]
  cf := some (fileOf pool11 1 #[.nestHost 79] #[] 16433 23 #[] #[{ accessFlags := 16409, nameIndex := 5, descriptorIndex := 6, attributes := #[] }, { accessFlags := 16409, nameIndex := 9, descriptorIndex := 6, attributes := #[] }, { accessFlags := 16409, nameIndex := 12, descriptorIndex := 6, attributes := #[] }, { accessFlags := 4122, nameIndex := 15, descriptorIndex := 16, attributes := #[] }])
  fields := #[{ name := "RECOVERING", type := (.object "com/example/farshard/farshard/store/Link$State"), accessFlags := 16409, slot := 0, constantValue := 0 }, { name := "FOLLOWING", type := (.object "com/example/farshard/farshard/store/Link$State"), accessFlags := 16409, slot := 1, constantValue := 0 }, { name := "BROKEN", type := (.object "com/example/farshard/farshard/store/Link$State"), accessFlags := 16409, slot := 2, constantValue := 0 }, { name := "$VALUES", type := (.array (.object "com/example/farshard/farshard/store/Link$State")), accessFlags := 4122, slot := 3, constantValue := 0 }]
  methods := #[]
  instanceTypes := #[(.object "java/lang/String"), .int, .int]
  staticTypes := #[(.object "com/example/farshard/farshard/store/Link$State"), (.object "com/example/farshard/farshard/store/Link$State"), (.object "com/example/farshard/farshard/store/Link$State"), (.array (.object "com/example/farshard/farshard/store/Link$State"))]
  resolved := Array.replicate 83 none
  statics := some 2 }

def pool12 : Array CpInfo := pool [(1, .methodref 2 3), (0, .class_ 4), (0, .nameAndType 5 6), (0, u "java/lang/Object"), (0, u "<init>"), (0, u "()V"), (0, .class_ 8), (0, u "java/lang/Record")] 13

def k12c0 : Code := { maxStack := 1, maxLocals := 1, code := jdk_30_method_1_code, exceptionTable := #[], attributes := #[] }
def k12m0 : Method := { name := "<init>", desc := "()V", sig := { parameters := [], returnType := none }, accessFlags := 4, code := some k12c0 }
/-- java/lang/Record -/
def k12 : Class := { plain "java/lang/Record" (some 0) with
  accessFlags := 1057
  interfaces := #[]
  cf := some (fileOf pool12 7 #[] #[{ accessFlags := 4, nameIndex := 5, descriptorIndex := 6, attributes := #[] }] 1057 2 #[] #[])
  fields := #[]
  methods := #[k12m0]
  instanceTypes := #[]
  staticTypes := #[]
  resolved := Array.replicate 22 none
  statics := none }

def pool13 : Array CpInfo := pool [(1, .methodref 2 3), (0, .class_ 4), (0, .nameAndType 5 6), (0, u "java/lang/Record"), (0, u "<init>"), (0, u "()V"), (0, .fieldref 8 9), (0, .class_ 10), (0, .nameAndType 11 12), (0, u "com/example/farshard/farshard/store/Link"), (0, u "role"), (0, u "Lcom/example/farshard/farshard/store/Link$Role;"), (0, .fieldref 8 14), (0, .nameAndType 15 16), (0, u "remote"), (0, u "Ljava/lang/String;"), (0, .fieldref 8 18), (0, .nameAndType 19 20), (0, u "mode"), (0, u "Lcom/example/farshard/farshard/store/Link$Mode;"), (0, .fieldref 8 22), (0, .nameAndType 23 24), (0, u "state"), (0, u "Lcom/example/farshard/farshard/store/Link$State;"), (0, .methodref 8 26), (0, .nameAndType 5 27), (0, u "(Lcom/example/farshard/farshard/store/Link$Role;Ljava/lang/String;Lcom/example/farshard/farshard/store/Link$Mode;Lcom/example/farshard/farshard/store/Link$State;)V"), (15, u "in"), (0, u "(Lcom/example/farshard/farshard/store/Link$State;)Lcom/example/farshard/farshard/store/Link;"), (0, u "()Ljava/lang/String;"), (2, u "()Lcom/example/farshard/farshard/store/Link$Role;"), (0, u "()Lcom/example/farshard/farshard/store/Link$Mode;"), (0, u "()Lcom/example/farshard/farshard/store/Link$State;"), (3, .class_ 55), (0, u "com/example/farshard/farshard/store/Link$State"), (0, .class_ 57), (0, u "com/example/farshard/farshard/store/Link$Pending"), (0, .class_ 59), (0, u "com/example/farshard/farshard/store/Link$Mode"), (0, .class_ 61), (0, u "com/example/farshard/farshard/store/Link$Settings"), (0, .class_ 63), (0, u "com/example/farshard/farshard/store/Link$Role")] 26

def k13c0 : Code := { maxStack := 2, maxLocals := 5, code := prog_54_method_1_code, exceptionTable := #[], attributes := #[] }
def k13m0 : Method := { name := "<init>", desc := "(Lcom/example/farshard/farshard/store/Link$Role;Ljava/lang/String;Lcom/example/farshard/farshard/store/Link$Mode;Lcom/example/farshard/farshard/store/Link$State;)V", sig := { parameters := [(.object "com/example/farshard/farshard/store/Link$Role"), (.object "java/lang/String"), (.object "com/example/farshard/farshard/store/Link$Mode"), (.object "com/example/farshard/farshard/store/Link$State")], returnType := none }, accessFlags := 1, code := some k13c0 }
def k13c1 : Code := { maxStack := 6, maxLocals := 2, code := prog_54_method_2_code, exceptionTable := #[], attributes := #[] }
def k13m1 : Method := { name := "in", desc := "(Lcom/example/farshard/farshard/store/Link$State;)Lcom/example/farshard/farshard/store/Link;", sig := { parameters := [(.object "com/example/farshard/farshard/store/Link$State")], returnType := some (.object "com/example/farshard/farshard/store/Link") }, accessFlags := 1, code := some k13c1 }
def k13c2 : Code := { maxStack := 1, maxLocals := 1, code := prog_54_method_6_code, exceptionTable := #[], attributes := #[] }
def k13m2 : Method := { name := "role", desc := "()Lcom/example/farshard/farshard/store/Link$Role;", sig := { parameters := [], returnType := some (.object "com/example/farshard/farshard/store/Link$Role") }, accessFlags := 1, code := some k13c2 }
def k13c3 : Code := { maxStack := 1, maxLocals := 1, code := prog_54_method_7_code, exceptionTable := #[], attributes := #[] }
def k13m3 : Method := { name := "remote", desc := "()Ljava/lang/String;", sig := { parameters := [], returnType := some (.object "java/lang/String") }, accessFlags := 1, code := some k13c3 }
def k13c4 : Code := { maxStack := 1, maxLocals := 1, code := prog_54_method_8_code, exceptionTable := #[], attributes := #[] }
def k13m4 : Method := { name := "mode", desc := "()Lcom/example/farshard/farshard/store/Link$Mode;", sig := { parameters := [], returnType := some (.object "com/example/farshard/farshard/store/Link$Mode") }, accessFlags := 1, code := some k13c4 }
def k13c5 : Code := { maxStack := 1, maxLocals := 1, code := prog_54_method_9_code, exceptionTable := #[], attributes := #[] }
def k13m5 : Method := { name := "state", desc := "()Lcom/example/farshard/farshard/store/Link$State;", sig := { parameters := [], returnType := some (.object "com/example/farshard/farshard/store/Link$State") }, accessFlags := 1, code := some k13c5 }
/-- com/example/farshard/farshard/store/Link -/
def k13 : Class := { plain "com/example/farshard/farshard/store/Link" (some 12) with
  accessFlags := 49
  interfaces := #[]
  cf := some (fileOf pool13 8 #[.nestMembers #[54, 56, 58, 60, 62]] #[{ accessFlags := 1, nameIndex := 5, descriptorIndex := 27, attributes := #[] }, { accessFlags := 1, nameIndex := 43, descriptorIndex := 44, attributes := #[] }, { accessFlags := 1, nameIndex := 11, descriptorIndex := 48, attributes := #[] }, { accessFlags := 1, nameIndex := 15, descriptorIndex := 45, attributes := #[] }, { accessFlags := 1, nameIndex := 19, descriptorIndex := 49, attributes := #[] }, { accessFlags := 1, nameIndex := 23, descriptorIndex := 50, attributes := #[] }] 49 2 #[] #[{ accessFlags := 18, nameIndex := 11, descriptorIndex := 12, attributes := #[] }, { accessFlags := 18, nameIndex := 15, descriptorIndex := 16, attributes := #[] }, { accessFlags := 18, nameIndex := 19, descriptorIndex := 20, attributes := #[] }, { accessFlags := 18, nameIndex := 23, descriptorIndex := 24, attributes := #[] }])
  fields := #[{ name := "role", type := (.object "com/example/farshard/farshard/store/Link$Role"), accessFlags := 18, slot := 0, constantValue := 0 }, { name := "remote", type := (.object "java/lang/String"), accessFlags := 18, slot := 1, constantValue := 0 }, { name := "mode", type := (.object "com/example/farshard/farshard/store/Link$Mode"), accessFlags := 18, slot := 2, constantValue := 0 }, { name := "state", type := (.object "com/example/farshard/farshard/store/Link$State"), accessFlags := 18, slot := 3, constantValue := 0 }]
  methods := #[k13m0, k13m1, k13m2, k13m3, k13m4, k13m5]
  instanceTypes := #[(.object "com/example/farshard/farshard/store/Link$Role"), (.object "java/lang/String"), (.object "com/example/farshard/farshard/store/Link$Mode"), (.object "com/example/farshard/farshard/store/Link$State")]
  staticTypes := #[]
  resolved := Array.replicate 90 none
  statics := none }

def pool14 : Array CpInfo := pool [(4, .class_ 6), (1, u "java/lang/Object"), (0, u "<init>"), (0, u "()V"), (5, .class_ 16), (1, u "java/lang/StringLatin1"), (104, u "$assertionsDisabled"), (0, u "Z"), (98, .class_ 223), (1, u "java/lang/StringLatin1$LinesSpliterator"), (166, .class_ 391), (0, u "java/lang/StringLatin1$CharsSpliterator")] 3

def k14m0 : Method := { name := "<init>", desc := "()V", sig := { parameters := [], returnType := none }, accessFlags := 0, code := none }
/-- java/lang/StringLatin1 -/
def k14 : Class := { plain "java/lang/StringLatin1" (some 0) with
  accessFlags := 48
  interfaces := #[]
  cf := some (fileOf pool14 14 #[.nestMembers #[390, 221]] #[{ accessFlags := 0, nameIndex := 7, descriptorIndex := 8, attributes := #[] }] 48 4 #[] #[{ accessFlags := 4120, nameIndex := 121, descriptorIndex := 122, attributes := #[] }])
  fields := #[{ name := "$assertionsDisabled", type := .boolean, accessFlags := 4120, slot := 0, constantValue := 0 }]
  methods := #[k14m0]
  instanceTypes := #[]
  staticTypes := #[.boolean]
  resolved := Array.replicate 395 none
  statics := none }

def pool15 : Array CpInfo := pool [(2, .class_ 4), (1, u "java/lang/Object"), (0, u "<init>"), (0, u "()V"), (17, .class_ 26), (1, u "jdk/internal/util/Preconditions"), (28, .class_ 56), (0, u "jdk/internal/util/Preconditions$4"), (57, .class_ 115), (0, u "jdk/internal/util/Preconditions$1"), (7, u "SIOOBE_FORMATTER"), (0, u "Ljava/util/function/BiFunction;"), (0, .class_ 126), (0, u "jdk/internal/util/Preconditions$2"), (3, u "AIOOBE_FORMATTER"), (0, .class_ 132), (0, u "jdk/internal/util/Preconditions$3"), (3, u "IOOBE_FORMATTER")] 57

def k15m0 : Method := { name := "<init>", desc := "()V", sig := { parameters := [], returnType := none }, accessFlags := 1, code := none }
/-- jdk/internal/util/Preconditions -/
def k15 : Class := { plain "jdk/internal/util/Preconditions" (some 0) with
  accessFlags := 33
  interfaces := #[]
  cf := some (fileOf pool15 24 #[.nestMembers #[55, 131, 125, 114]] #[{ accessFlags := 1, nameIndex := 5, descriptorIndex := 6, attributes := #[] }] 33 2 #[] #[{ accessFlags := 25, nameIndex := 123, descriptorIndex := 124, attributes := #[] }, { accessFlags := 25, nameIndex := 130, descriptorIndex := 124, attributes := #[] }, { accessFlags := 25, nameIndex := 136, descriptorIndex := 124, attributes := #[] }])
  fields := #[{ name := "SIOOBE_FORMATTER", type := (.object "java/util/function/BiFunction"), accessFlags := 25, slot := 0, constantValue := 0 }, { name := "AIOOBE_FORMATTER", type := (.object "java/util/function/BiFunction"), accessFlags := 25, slot := 1, constantValue := 0 }, { name := "IOOBE_FORMATTER", type := (.object "java/util/function/BiFunction"), accessFlags := 25, slot := 2, constantValue := 0 }]
  methods := #[k15m0]
  instanceTypes := #[]
  staticTypes := #[(.object "java/util/function/BiFunction"), (.object "java/util/function/BiFunction"), (.object "java/util/function/BiFunction")]
  resolved := Array.replicate 194 none
  statics := some 3 }

def pool16 : Array CpInfo := pool [(9, u "<init>"), (6, .class_ 18), (1, u "java/lang/Object"), (0, u "()V"), (1, .class_ 23), (1, u "jdk/internal/util/ArraysSupport"), (0, u "LOG2_ARRAY_LONG_INDEX_SCALE"), (0, u "I"), (2, u "U"), (0, u "Ljdk/internal/misc/Unsafe;"), (8, u "BIG_ENDIAN"), (0, u "Z"), (8, u "LOG2_BYTE_BIT_SIZE"), (4, u "LOG2_ARRAY_INT_INDEX_SCALE"), (54, u "JLA"), (0, u "Ljdk/internal/access/JavaLangAccess;"), (11, u "LOG2_ARRAY_BOOLEAN_INDEX_SCALE"), (9, u "LOG2_ARRAY_BYTE_INDEX_SCALE"), (5, u "LOG2_ARRAY_CHAR_INDEX_SCALE"), (5, u "LOG2_ARRAY_SHORT_INDEX_SCALE"), (18, u "LOG2_ARRAY_FLOAT_INDEX_SCALE"), (24, u "LOG2_ARRAY_DOUBLE_INDEX_SCALE"), (89, u "T_BOOLEAN"), (2, u "T_CHAR"), (1, u "T_FLOAT"), (1, u "T_DOUBLE"), (1, u "T_BYTE"), (1, u "T_SHORT"), (1, u "T_INT"), (1, u "T_LONG"), (1, u "SOFT_MAX_ARRAY_LENGTH")] 83

def k16m0 : Method := { name := "<init>", desc := "()V", sig := { parameters := [], returnType := none }, accessFlags := 2, code := none }
/-- jdk/internal/util/ArraysSupport -/
def k16 : Class := { plain "jdk/internal/util/ArraysSupport" (some 0) with
  accessFlags := 33
  interfaces := #[]
  cf := some (fileOf pool16 21 #[] #[{ accessFlags := 2, nameIndex := 9, descriptorIndex := 19, attributes := #[] }] 33 16 #[] #[{ accessFlags := 24, nameIndex := 28, descriptorIndex := 29, attributes := #[] }, { accessFlags := 26, nameIndex := 38, descriptorIndex := 39, attributes := #[] }, { accessFlags := 25, nameIndex := 121, descriptorIndex := 25, attributes := #[] }, { accessFlags := 25, nameIndex := 131, descriptorIndex := 25, attributes := #[] }, { accessFlags := 25, nameIndex := 137, descriptorIndex := 25, attributes := #[] }, { accessFlags := 25, nameIndex := 143, descriptorIndex := 25, attributes := #[] }, { accessFlags := 25, nameIndex := 53, descriptorIndex := 25, attributes := #[] }, { accessFlags := 25, nameIndex := 24, descriptorIndex := 25, attributes := #[] }, { accessFlags := 25, nameIndex := 162, descriptorIndex := 25, attributes := #[] }, { accessFlags := 25, nameIndex := 187, descriptorIndex := 25, attributes := #[] }, { accessFlags := 26, nameIndex := 48, descriptorIndex := 25, attributes := #[] }, { accessFlags := 25, nameIndex := 277, descriptorIndex := 25, attributes := #[] }, { accessFlags := 25, nameIndex := 280, descriptorIndex := 25, attributes := #[] }, { accessFlags := 25, nameIndex := 282, descriptorIndex := 25, attributes := #[] }, { accessFlags := 25, nameIndex := 284, descriptorIndex := 25, attributes := #[] }, { accessFlags := 25, nameIndex := 286, descriptorIndex := 25, attributes := #[] }, { accessFlags := 25, nameIndex := 288, descriptorIndex := 25, attributes := #[] }, { accessFlags := 25, nameIndex := 290, descriptorIndex := 25, attributes := #[] }, { accessFlags := 25, nameIndex := 292, descriptorIndex := 25, attributes := #[] }, { accessFlags := 26, nameIndex := 108, descriptorIndex := 109, attributes := #[] }, { accessFlags := 25, nameIndex := 294, descriptorIndex := 25, attributes := #[] }])
  fields := #[{ name := "U", type := (.object "jdk/internal/misc/Unsafe"), accessFlags := 24, slot := 0, constantValue := 0 }, { name := "BIG_ENDIAN", type := .boolean, accessFlags := 26, slot := 1, constantValue := 0 }, { name := "LOG2_ARRAY_BOOLEAN_INDEX_SCALE", type := .int, accessFlags := 25, slot := 2, constantValue := 0 }, { name := "LOG2_ARRAY_BYTE_INDEX_SCALE", type := .int, accessFlags := 25, slot := 3, constantValue := 0 }, { name := "LOG2_ARRAY_CHAR_INDEX_SCALE", type := .int, accessFlags := 25, slot := 4, constantValue := 0 }, { name := "LOG2_ARRAY_SHORT_INDEX_SCALE", type := .int, accessFlags := 25, slot := 5, constantValue := 0 }, { name := "LOG2_ARRAY_INT_INDEX_SCALE", type := .int, accessFlags := 25, slot := 6, constantValue := 0 }, { name := "LOG2_ARRAY_LONG_INDEX_SCALE", type := .int, accessFlags := 25, slot := 7, constantValue := 0 }, { name := "LOG2_ARRAY_FLOAT_INDEX_SCALE", type := .int, accessFlags := 25, slot := 8, constantValue := 0 }, { name := "LOG2_ARRAY_DOUBLE_INDEX_SCALE", type := .int, accessFlags := 25, slot := 9, constantValue := 0 }, { name := "LOG2_BYTE_BIT_SIZE", type := .int, accessFlags := 26, slot := 10, constantValue := 0 }, { name := "T_BOOLEAN", type := .int, accessFlags := 25, slot := 11, constantValue := 0 }, { name := "T_CHAR", type := .int, accessFlags := 25, slot := 12, constantValue := 0 }, { name := "T_FLOAT", type := .int, accessFlags := 25, slot := 13, constantValue := 0 }, { name := "T_DOUBLE", type := .int, accessFlags := 25, slot := 14, constantValue := 0 }, { name := "T_BYTE", type := .int, accessFlags := 25, slot := 15, constantValue := 0 }, { name := "T_SHORT", type := .int, accessFlags := 25, slot := 16, constantValue := 0 }, { name := "T_INT", type := .int, accessFlags := 25, slot := 17, constantValue := 0 }, { name := "T_LONG", type := .int, accessFlags := 25, slot := 18, constantValue := 0 }, { name := "JLA", type := (.object "jdk/internal/access/JavaLangAccess"), accessFlags := 26, slot := 19, constantValue := 0 }, { name := "SOFT_MAX_ARRAY_LENGTH", type := .int, accessFlags := 25, slot := 20, constantValue := 0 }]
  methods := #[k16m0]
  instanceTypes := #[]
  staticTypes := #[(.object "jdk/internal/misc/Unsafe"), .boolean, .int, .int, .int, .int, .int, .int, .int, .int, .int, .int, .int, .int, .int, .int, .int, .int, .int, (.object "jdk/internal/access/JavaLangAccess"), .int]
  resolved := Array.replicate 378 none
  statics := none }

def pool17 : Array CpInfo := pool [(1, u "java/lang/Cloneable"), (0, .class_ 1), (0, u "java/lang/Object"), (0, .class_ 3)] 3

/-- java/lang/Cloneable -/
def k17 : Class := { plain "java/lang/Cloneable" (some 0) with
  accessFlags := 1537
  interfaces := #[]
  cf := some (fileOf pool17 2 #[] #[] 1537 4 #[] #[])
  fields := #[]
  methods := #[]
  instanceTypes := #[]
  staticTypes := #[]
  resolved := Array.replicate 8 none
  statics := none }

/-- the primitive byte -/
def k18 : Class := { plain "byte" none with kind := .primitive 'B', accessFlags := 0x411 }
/-- [B -/
def k19 : Class := { plain "[B" (some 0) with kind := .array 18 .byte, interfaces := #[17, 4], accessFlags := 1041 }

/-- the primitive char -/
def k20 : Class := { plain "char" none with kind := .primitive 'C', accessFlags := 0x411 }
/-- [C -/
def k21 : Class := { plain "[C" (some 0) with kind := .array 20 .char, interfaces := #[17, 4], accessFlags := 1041 }

/-- the primitive int -/
def k22 : Class := { plain "int" none with kind := .primitive 'I', accessFlags := 0x411 }
/-- [I -/
def k23 : Class := { plain "[I" (some 0) with kind := .array 22 .int, interfaces := #[17, 4], accessFlags := 1041 }

def heap : Heap := #[{ cls := 6, slots := #[.ref 4, .ref 5, .null], vm := .statics 6 },
  { cls := 9, slots := #[.long 0, .int 1, .null, .int 0, .null, .int 0, .int 0], vm := .statics 9 },
  { cls := 11, slots := #[.ref 6, .ref 7, .ref 8, .null], vm := .statics 11 },
  { cls := 15, slots := #[.null, .null, .null], vm := .statics 15 },
  { cls := 6, slots := #[.null, .int 0, .int 0], vm := .none },
  { cls := 6, slots := #[.null, .int 1, .int 0], vm := .none },
  { cls := 11, slots := #[.null, .int 0, .int 0], vm := .none },
  { cls := 11, slots := #[.null, .int 1, .int 0], vm := .none },
  { cls := 11, slots := #[.null, .int 2, .int 0], vm := .none }]
def classes : Array Class := #[k0, k1, k2, k3, k4, k5, k6, k7, k8, k9, k10, k11, k12, k13, k14, k15, k16, k17, k18, k19, k20, k21, k22, k23]
def interned : List (Array UInt16 × Addr) := []
def slotsUsed : Nat := 32
def theMethod : MethodId := ⟨1, 3⟩
def args0 : Array Value := #[.int 5, .int 3, .int 9, .int 1, .int 2]
def aboutOver (below : List Frame) : State where
  vm := { classes := classes, interned := interned.toArray }
  heap := heap
  slotsUsed := slotsUsed
  threads := #[{ frames := .invoking theMethod args0 :: below }]
def below0 : List Frame := [.native { method := ⟨0, 0⟩, args := #[] }]
def about1 : State := aboutOver below0
def p0 : Program := .bare "" "" ""
def e0 : Env := launch0.env 0 0 0
theorem w_frames : about1.frames = Frame.invoking theMethod args0 :: below0 := rfl
set_option maxRecDepth 65536 in
theorem w_args : argsFit about1.vm theMethod args0 = true := by decide +kernel
set_option maxRecDepth 65536 in
theorem w_heap : heapFits about1 = true := by decide +kernel
set_option maxRecDepth 65536 in
theorem w_runnable : about1.curStatus? = some .runnable := by decide +kernel
set_option maxRecDepth 65536 in
theorem w_alone : about1.alone = true := by decide +kernel
set_option maxRecDepth 65536 in
theorem w_named : about1.methodNamed? x = some theMethod := by decide +kernel
set_option maxRecDepth 65536 in
theorem w_hears : about1.hears theMethod below0 = true := by decide +kernel
set_option maxRecDepth 65536 in
theorem w_ripe : about1.ripe theMethod args0 below0 = true := by decide +kernel
theorem w_running : about1.status = .running := rfl
set_option maxRecDepth 65536 in
theorem w_room : about1.hasRoom e0.platform room_1 = true :=
  launch0.hasRoom_least _ room_1 (by decide +kernel) (by decide +kernel) (by decide +kernel) (by decide +kernel) (by decide +kernel) (by decide +kernel)
theorem allAtoms_all (ts : List Jvm.Cond) (a : Array Jvm.Value) (st : Jvm.State) : (allAtoms ts).before a st = ts.all (fun c => c.before a st) := by
  induction ts with
  | nil => rfl
  | cons c t ih =>
    show (Jvm.Cond.and c (allAtoms t)).before a st = _
    rw [Jvm.Cond.before_and, ih, List.all_cons]
def words1 : List Jvm.Cond := Jvm.Cond.code x code maxLocals ret :: tables_1
/-- a 'code' word, met by the world's own term for the bytes: nothing is compared byte by byte -/
theorem code_word {y : MethodName} {bytes : ByteArray} {mx : Nat} {rt : Option FieldType} {a : Array Value} {s : State} {m : MethodId} {meth : Method} {c : Code} (h1 : s.methodNamed? y = some m) (h2 : s.vm.method? m = some meth) (h3 : meth.code = some c) (h4 : c.code = bytes)
    (h5 : (c.maxLocals == mx && c.exceptionTable.isEmpty && decide (c.maxStack ≤ mostOperands) && decide (meth.sig.returnType = rt) && !meth.locks && decide (parseMethodDescriptor y.desc = some meth.sig)) = true) : (Jvm.Cond.code y bytes mx rt).before a s = true := by
  simp only [Bool.and_eq_true, beq_iff_eq, Bool.not_eq_true', decide_eq_true_eq] at h5
  obtain ⟨⟨⟨⟨⟨g1, g2⟩, g3⟩, g4⟩, g5⟩, g6⟩ := h5
  simp [Cond.before, Cond.holds, Cond.value, h1, h2, h3, h4, g1, g2, g3, g4, g5, g6]
def isCode : Jvm.Cond → Bool
  | .code _ _ _ _ => true
  | _ => false
theorem all_split {L : List Jvm.Cond} {P : Jvm.Cond → Bool} (h1 : L.all (fun c => isCode c || P c) = true) (h2 : ∀ c ∈ L.filter isCode, P c = true) : L.all P = true := by
  refine List.all_eq_true.mpr fun c hc => ?_
  have h := List.all_eq_true.mp h1 c hc
  rcases Bool.eq_false_or_eq_true (isCode c) with hi | hi
  · exact h2 c (List.mem_filter.mpr ⟨hc, hi⟩)
  · simpa [hi] using h
set_option maxRecDepth 65536 in
theorem w_c0 : (Jvm.Cond.code x code maxLocals ret).before args0 about1 = true := code_word (m := ⟨1, 3⟩) (meth := k1m3) (c := k1c3) (by decide +kernel) rfl rfl rfl (by decide +kernel)
set_option maxRecDepth 65536 in
theorem w_c1 : (Jvm.Cond.code ({ cls := "com/example/farshard/farshard/store/LinkInPinLaw", name := "role", desc := "(I)Lcom/example/farshard/farshard/store/Link$Role;" } : Jvm.MethodName) method_3_code (2 : Nat) (Option.some (Jvm.ClassFile.FieldType.object "com/example/farshard/farshard/store/Link$Role"))).before args0 about1 = true := code_word (m := ⟨1, 2⟩) (meth := k1m2) (c := k1c2) (by decide +kernel) rfl rfl rfl (by decide +kernel)
set_option maxRecDepth 65536 in
theorem w_c2 : (Jvm.Cond.code ({ cls := "java/lang/String", name := "<init>", desc := "([C)V" } : Jvm.MethodName) jdk_42_method_3_code (2 : Nat) (Option.none : Option Jvm.ClassFile.FieldType)).before args0 about1 = true := code_word (m := ⟨9, 1⟩) (meth := k9m1) (c := k9c1) (by decide +kernel) rfl rfl rfl (by decide +kernel)
set_option maxRecDepth 65536 in
theorem w_c3 : (Jvm.Cond.code ({ cls := "java/lang/String", name := "<init>", desc := "([CIILjava/lang/Void;)V" } : Jvm.MethodName) jdk_42_method_149_code (6 : Nat) (Option.none : Option Jvm.ClassFile.FieldType)).before args0 about1 = true := code_word (m := ⟨9, 2⟩) (meth := k9m2) (c := k9c2) (by decide +kernel) rfl rfl rfl (by decide +kernel)
set_option maxRecDepth 65536 in
theorem w_c4 : (Jvm.Cond.code ({ cls := "java/lang/Object", name := "<init>", desc := "()V" } : Jvm.MethodName) object_method_1_code (1 : Nat) (Option.none : Option Jvm.ClassFile.FieldType)).before args0 about1 = true := code_word (m := ⟨0, 0⟩) (meth := k0m0) (c := k0c0) (by decide +kernel) rfl rfl rfl (by decide +kernel)
set_option maxRecDepth 65536 in
theorem w_c5 : (Jvm.Cond.code ({ cls := "java/lang/StringUTF16", name := "compress", desc := "([CII)[B" } : Jvm.MethodName) jdk_52_method_16_code (6 : Nat) (Option.some (Jvm.ClassFile.FieldType.array Jvm.ClassFile.FieldType.byte))).before args0 about1 = true := code_word (m := ⟨10, 2⟩) (meth := k10m2) (c := k10c2) (by decide +kernel) rfl rfl rfl (by decide +kernel)
set_option maxRecDepth 65536 in
theorem w_c6 : (Jvm.Cond.code ({ cls := "java/lang/StringUTF16", name := "compress", desc := "([CI[BII)I" } : Jvm.MethodName) jdk_52_method_21_code (7 : Nat) (Option.some Jvm.ClassFile.FieldType.int)).before args0 about1 = true := code_word (m := ⟨10, 3⟩) (meth := k10m3) (c := k10c3) (by decide +kernel) rfl rfl rfl (by decide +kernel)
set_option maxRecDepth 65536 in
theorem w_c7 : (Jvm.Cond.code ({ cls := "java/lang/StringUTF16", name := "coderFromArrayLen", desc := "([BI)B" } : Jvm.MethodName) jdk_52_method_15_code (2 : Nat) (Option.some Jvm.ClassFile.FieldType.byte)).before args0 about1 = true := code_word (m := ⟨10, 1⟩) (meth := k10m1) (c := k10c1) (by decide +kernel) rfl rfl rfl (by decide +kernel)
set_option maxRecDepth 65536 in
theorem w_c8 : (Jvm.Cond.code ({ cls := "com/example/farshard/farshard/store/LinkInPinLaw", name := "st", desc := "(I)Lcom/example/farshard/farshard/store/Link$State;" } : Jvm.MethodName) method_2_code (2 : Nat) (Option.some (Jvm.ClassFile.FieldType.object "com/example/farshard/farshard/store/Link$State"))).before args0 about1 = true := code_word (m := ⟨1, 1⟩) (meth := k1m1) (c := k1c1) (by decide +kernel) rfl rfl rfl (by decide +kernel)
set_option maxRecDepth 65536 in
theorem w_c9 : (Jvm.Cond.code ({ cls := "com/example/farshard/farshard/store/Link", name := "<init>", desc := "(Lcom/example/farshard/farshard/store/Link$Role;Ljava/lang/String;Lcom/example/farshard/farshard/store/Link$Mode;Lcom/example/farshard/farshard/store/Link$State;)V" } : Jvm.MethodName) prog_54_method_1_code (5 : Nat) (Option.none : Option Jvm.ClassFile.FieldType)).before args0 about1 = true := code_word (m := ⟨13, 0⟩) (meth := k13m0) (c := k13c0) (by decide +kernel) rfl rfl rfl (by decide +kernel)
set_option maxRecDepth 65536 in
theorem w_c10 : (Jvm.Cond.code ({ cls := "java/lang/Record", name := "<init>", desc := "()V" } : Jvm.MethodName) jdk_30_method_1_code (1 : Nat) (Option.none : Option Jvm.ClassFile.FieldType)).before args0 about1 = true := code_word (m := ⟨12, 0⟩) (meth := k12m0) (c := k12c0) (by decide +kernel) rfl rfl rfl (by decide +kernel)
set_option maxRecDepth 65536 in
theorem w_c11 : (Jvm.Cond.code ({ cls := "com/example/farshard/farshard/store/Link", name := "in", desc := "(Lcom/example/farshard/farshard/store/Link$State;)Lcom/example/farshard/farshard/store/Link;" } : Jvm.MethodName) prog_54_method_2_code (2 : Nat) (Option.some (Jvm.ClassFile.FieldType.object "com/example/farshard/farshard/store/Link"))).before args0 about1 = true := code_word (m := ⟨13, 1⟩) (meth := k13m1) (c := k13c1) (by decide +kernel) rfl rfl rfl (by decide +kernel)
set_option maxRecDepth 65536 in
theorem w_c12 : (Jvm.Cond.code ({ cls := "com/example/farshard/farshard/store/Link", name := "role", desc := "()Lcom/example/farshard/farshard/store/Link$Role;" } : Jvm.MethodName) prog_54_method_6_code (1 : Nat) (Option.some (Jvm.ClassFile.FieldType.object "com/example/farshard/farshard/store/Link$Role"))).before args0 about1 = true := code_word (m := ⟨13, 2⟩) (meth := k13m2) (c := k13c2) (by decide +kernel) rfl rfl rfl (by decide +kernel)
set_option maxRecDepth 65536 in
theorem w_c13 : (Jvm.Cond.code ({ cls := "com/example/farshard/farshard/store/Link", name := "remote", desc := "()Ljava/lang/String;" } : Jvm.MethodName) prog_54_method_7_code (1 : Nat) (Option.some (Jvm.ClassFile.FieldType.object "java/lang/String"))).before args0 about1 = true := code_word (m := ⟨13, 3⟩) (meth := k13m3) (c := k13c3) (by decide +kernel) rfl rfl rfl (by decide +kernel)
set_option maxRecDepth 65536 in
theorem w_c14 : (Jvm.Cond.code ({ cls := "com/example/farshard/farshard/store/Link", name := "mode", desc := "()Lcom/example/farshard/farshard/store/Link$Mode;" } : Jvm.MethodName) prog_54_method_8_code (1 : Nat) (Option.some (Jvm.ClassFile.FieldType.object "com/example/farshard/farshard/store/Link$Mode"))).before args0 about1 = true := code_word (m := ⟨13, 4⟩) (meth := k13m4) (c := k13c4) (by decide +kernel) rfl rfl rfl (by decide +kernel)
set_option maxRecDepth 65536 in
theorem w_c15 : (Jvm.Cond.code ({ cls := "com/example/farshard/farshard/store/Link", name := "state", desc := "()Lcom/example/farshard/farshard/store/Link$State;" } : Jvm.MethodName) prog_54_method_9_code (1 : Nat) (Option.some (Jvm.ClassFile.FieldType.object "com/example/farshard/farshard/store/Link$State"))).before args0 about1 = true := code_word (m := ⟨13, 5⟩) (meth := k13m5) (c := k13c5) (by decide +kernel) rfl rfl rfl (by decide +kernel)
def codes1 : List Jvm.Cond := [Jvm.Cond.code x code maxLocals ret, Jvm.Cond.code ({ cls := "com/example/farshard/farshard/store/LinkInPinLaw", name := "role", desc := "(I)Lcom/example/farshard/farshard/store/Link$Role;" } : Jvm.MethodName) method_3_code (2 : Nat) (Option.some (Jvm.ClassFile.FieldType.object "com/example/farshard/farshard/store/Link$Role")), Jvm.Cond.code ({ cls := "java/lang/String", name := "<init>", desc := "([C)V" } : Jvm.MethodName) jdk_42_method_3_code (2 : Nat) (Option.none : Option Jvm.ClassFile.FieldType), Jvm.Cond.code ({ cls := "java/lang/String", name := "<init>", desc := "([CIILjava/lang/Void;)V" } : Jvm.MethodName) jdk_42_method_149_code (6 : Nat) (Option.none : Option Jvm.ClassFile.FieldType), Jvm.Cond.code ({ cls := "java/lang/Object", name := "<init>", desc := "()V" } : Jvm.MethodName) object_method_1_code (1 : Nat) (Option.none : Option Jvm.ClassFile.FieldType), Jvm.Cond.code ({ cls := "java/lang/StringUTF16", name := "compress", desc := "([CII)[B" } : Jvm.MethodName) jdk_52_method_16_code (6 : Nat) (Option.some (Jvm.ClassFile.FieldType.array Jvm.ClassFile.FieldType.byte)), Jvm.Cond.code ({ cls := "java/lang/StringUTF16", name := "compress", desc := "([CI[BII)I" } : Jvm.MethodName) jdk_52_method_21_code (7 : Nat) (Option.some Jvm.ClassFile.FieldType.int), Jvm.Cond.code ({ cls := "java/lang/StringUTF16", name := "coderFromArrayLen", desc := "([BI)B" } : Jvm.MethodName) jdk_52_method_15_code (2 : Nat) (Option.some Jvm.ClassFile.FieldType.byte), Jvm.Cond.code ({ cls := "com/example/farshard/farshard/store/LinkInPinLaw", name := "st", desc := "(I)Lcom/example/farshard/farshard/store/Link$State;" } : Jvm.MethodName) method_2_code (2 : Nat) (Option.some (Jvm.ClassFile.FieldType.object "com/example/farshard/farshard/store/Link$State")), Jvm.Cond.code ({ cls := "com/example/farshard/farshard/store/Link", name := "<init>", desc := "(Lcom/example/farshard/farshard/store/Link$Role;Ljava/lang/String;Lcom/example/farshard/farshard/store/Link$Mode;Lcom/example/farshard/farshard/store/Link$State;)V" } : Jvm.MethodName) prog_54_method_1_code (5 : Nat) (Option.none : Option Jvm.ClassFile.FieldType), Jvm.Cond.code ({ cls := "java/lang/Record", name := "<init>", desc := "()V" } : Jvm.MethodName) jdk_30_method_1_code (1 : Nat) (Option.none : Option Jvm.ClassFile.FieldType), Jvm.Cond.code ({ cls := "com/example/farshard/farshard/store/Link", name := "in", desc := "(Lcom/example/farshard/farshard/store/Link$State;)Lcom/example/farshard/farshard/store/Link;" } : Jvm.MethodName) prog_54_method_2_code (2 : Nat) (Option.some (Jvm.ClassFile.FieldType.object "com/example/farshard/farshard/store/Link")), Jvm.Cond.code ({ cls := "com/example/farshard/farshard/store/Link", name := "role", desc := "()Lcom/example/farshard/farshard/store/Link$Role;" } : Jvm.MethodName) prog_54_method_6_code (1 : Nat) (Option.some (Jvm.ClassFile.FieldType.object "com/example/farshard/farshard/store/Link$Role")), Jvm.Cond.code ({ cls := "com/example/farshard/farshard/store/Link", name := "remote", desc := "()Ljava/lang/String;" } : Jvm.MethodName) prog_54_method_7_code (1 : Nat) (Option.some (Jvm.ClassFile.FieldType.object "java/lang/String")), Jvm.Cond.code ({ cls := "com/example/farshard/farshard/store/Link", name := "mode", desc := "()Lcom/example/farshard/farshard/store/Link$Mode;" } : Jvm.MethodName) prog_54_method_8_code (1 : Nat) (Option.some (Jvm.ClassFile.FieldType.object "com/example/farshard/farshard/store/Link$Mode")), Jvm.Cond.code ({ cls := "com/example/farshard/farshard/store/Link", name := "state", desc := "()Lcom/example/farshard/farshard/store/Link$State;" } : Jvm.MethodName) prog_54_method_9_code (1 : Nat) (Option.some (Jvm.ClassFile.FieldType.object "com/example/farshard/farshard/store/Link$State"))]
set_option maxRecDepth 65536 in
theorem codes_eq : words1.filter isCode = codes1 := rfl
theorem w_codes : ∀ c ∈ words1.filter isCode, c.before args0 about1 = true := by
  rw [codes_eq]
  intro c hc
  simp only [codes1, List.mem_cons, List.not_mem_nil, or_false] at hc
  rcases hc with rfl | rfl | rfl | rfl | rfl | rfl | rfl | rfl | rfl | rfl | rfl | rfl | rfl | rfl | rfl | rfl
  · exact w_c0
  · exact w_c1
  · exact w_c2
  · exact w_c3
  · exact w_c4
  · exact w_c5
  · exact w_c6
  · exact w_c7
  · exact w_c8
  · exact w_c9
  · exact w_c10
  · exact w_c11
  · exact w_c12
  · exact w_c13
  · exact w_c14
  · exact w_c15
set_option maxRecDepth 65536 in
theorem w_t1 : (words1.take 24).all (fun c => isCode c || c.before args0 about1) = true := by decide +kernel
set_option maxRecDepth 65536 in
theorem w_t2 : ((words1.drop 24).take 24).all (fun c => isCode c || c.before args0 about1) = true := by decide +kernel
set_option maxRecDepth 65536 in
theorem w_t3 : (((words1.drop 24).drop 24).take 24).all (fun c => isCode c || c.before args0 about1) = true := by decide +kernel
set_option maxRecDepth 65536 in
theorem w_t4 : ((((words1.drop 24).drop 24).drop 24).take 24).all (fun c => isCode c || c.before args0 about1) = true := by decide +kernel
set_option maxRecDepth 65536 in
theorem w_t5 : ((((words1.drop 24).drop 24).drop 24).drop 24).all (fun c => isCode c || c.before args0 about1) = true := by decide +kernel
theorem w_tables : (allAtoms (Jvm.Cond.code x code maxLocals ret :: tables_1)).before args0 about1 = true := by
  rw [allAtoms_all]
  show words1.all (fun c => c.before args0 about1) = true
  refine all_split ?_ w_codes
  rw [← List.take_append_drop 24 words1, List.all_append, w_t1, ← List.take_append_drop 24 (words1.drop 24), List.all_append, w_t2, ← List.take_append_drop 24 ((words1.drop 24).drop 24), List.all_append, w_t3, ← List.take_append_drop 24 (((words1.drop 24).drop 24).drop 24), List.all_append, w_t4, w_t5]
  rfl
set_option maxRecDepth 65536 in
theorem w_rest : rest_1_c.before args0 about1 = true := by decide +kernel
set_option maxRecDepth 65536 in
theorem w_case : (Jvm.Cond.and given_1 narrow_1).before args0 about1 = true := by decide +kernel
theorem w_applies : (headSpec (Jvm.Cond.code x code maxLocals ret :: tables_1) room_1).applies x e0.platform about1 = true :=
  (Spec.applies_iff w_frames).mpr ⟨w_running, w_runnable, w_alone, w_named, w_hears, w_ripe, w_room, w_tables⟩
theorem atStart : AtStart classFile x code maxLocals ret World_1 tables_1 room_1 Calls_1 rest_1 Pre_1 launch0 p0 e0 about1 theMethod args0 below0 :=
  ⟨lists_1, trivial, launch0.admits_env _ _ _, launch0.least_env, fairChoices_fair.cas, fairChoices_fair.clock, w_frames, w_args, w_heap, w_applies, trivial, w_rest, w_case⟩
end start1
theorem witness_1 : WitnessClaimed_1 := ⟨start1.p0, start1.e0, start1.about1, start1.theMethod, start1.args0, start1.below0, start1.atStart⟩
end Jvm.Pilot.@@N@@
