import JvmDerived
import JvmDerived.Pilot.@@N@@Statement
import JvmDerived.Pilot.@@N@@Code
set_option linter.unusedVariables false
set_option linter.unusedSimpArgs false
namespace Jvm.Pilot.@@N@@
open Jvm Jvm.ClassFile Sem Op Lib Jvm.Free Jvm.Stand Jvm.LawKit Jvm.RoadKit Bundle Jvm.Pilot.@@N@@.Jvm.D
section OwnKit
variable {p : Program} {l : Launch} {e : Env} {R : Room} {s : State} {m : MethodId} {args : Array Value} {below : List Frame} {meth : Method} {c : Code} {T T' : State} {locs : List Loc} {cells slots : Nat} {P : Outcome → State → Prop} {Q : Option Value → Heap → List Loc → Prop} {cC cS : Nat} {bytes : ByteArray} {ls : Array Slot} {st : List Value} {pc pc' : Nat} {g g' : JFrame} {Z : State} {a0 : Array Value} {h h' : Heap}
/-- from this state and frame the method comes to its end, returns, and Q holds of what it leaves -/
def own_Got (p : Program) (e : Env) (below : List Frame) (P : Outcome → State → Prop) (T : State) (g : JFrame) : Prop :=
  ∃ s₂ o, Steps p.tables e below (T.setTop g) s₂ ∧ s₂.status = .running ∧ Ended s₂ below o ∧ P o s₂
/-- what a contract says of the end -/
def own_End (s : State) (Q : Option Value → Heap → List Loc → Prop) (cC cS : Nat) (o : Outcome) (U : State) : Prop := ∃ v L, o = .returned v ∧ Q v U.heap L ∧ FrameEnd s o U L cC cS
theorem own_go (k : ∀ t, Steps p.tables e below (T'.setTop g') t → Steps p.tables e below (T.setTop g) t) (h : own_Got p e below P T' g') : own_Got p e below P T g := by
  obtain ⟨s2, o, h1, h2⟩ := h; exact ⟨s2, o, k _ h1, h2⟩
theorem own_tr (k : Steps p.tables e below (T.setTop g) (T'.setTop g')) (h : own_Got p e below P T' g') : own_Got p e below P T g := own_go (fun _ q => k.trans q) h
theorem own_cast (q : g = g') (h : own_Got p e below P T g') : own_Got p e below P T g := q ▸ h
theorem own_retV (X : Stand p l e R s m args below meth c T locs cells slots) (hx : p.tables.exec = Jvm.exec) (hby : c.code = bytes) (hlk : meth.locks = false) (hret : meth.sig.returnType = none) (hd : decode bytes pc = .ok (.return_, 1)) (hc : cells ≤ cC) (hs : slots ≤ cS)
    (hq : Q none T.heap locs) : own_Got p e below (own_End s Q cC cS) T (mkF m pc ls []) := by
  obtain ⟨fs, hr, hrun, hended, hW, hsame⟩ := X.leave (v := none) (fun _ => rfl) hlk
  exact ⟨_, _, X.returnOut hx hret (hb hby hd) hr, hrun, hended, _, _, rfl, hq, ⟨_, rfl⟩, hW, hsame.mono hc hs⟩
theorem own_retI (X : Stand p l e R s m args below meth c T locs cells slots) (hx : p.tables.exec = Jvm.exec) (hby : c.code = bytes) (hlk : meth.locks = false) (hret : meth.sig.returnType = some .int) (hd : decode bytes pc = .ok (.ireturn, 1)) (hc : cells ≤ cC) (hs : slots ≤ cS) {z : Int32}
    (hq : Q (some (.int z)) T.heap locs) : own_Got p e below (own_End s Q cC cS) T (mkF m pc ls (.int z :: st)) := by
  obtain ⟨fs, hr, hrun, hended, hW, hsame⟩ := X.leave (v := some (.int z)) (fun h => by rw [hret] at h; cases h) hlk
  exact ⟨_, _, retOut X hx hret rfl (Or.inl ⟨rfl, Or.inl rfl, _, rfl⟩) (hb hby hd) hr, hrun, hended, _, _, rfl, hq, ⟨_, rfl⟩, hW, hsame.mono hc hs⟩
theorem own_retL (X : Stand p l e R s m args below meth c T locs cells slots) (hx : p.tables.exec = Jvm.exec) (hby : c.code = bytes) (hlk : meth.locks = false) (hret : meth.sig.returnType = some .long) (hd : decode bytes pc = .ok (.lreturn, 1)) (hc : cells ≤ cC) (hs : slots ≤ cS) {z : Int64}
    (hq : Q (some (.long z)) T.heap locs) : own_Got p e below (own_End s Q cC cS) T (mkF m pc ls (.long z :: st)) := by
  obtain ⟨fs, hr, hrun, hended, hW, hsame⟩ := X.leave (v := some (.long z)) (fun h => by rw [hret] at h; cases h) hlk
  exact ⟨_, _, retOut X hx hret rfl (Or.inr (Or.inl ⟨rfl, rfl, _, rfl⟩)) (hb hby hd) hr, hrun, hended, _, _, rfl, hq, ⟨_, rfl⟩, hW, hsame.mono hc hs⟩
theorem own_retD (X : Stand p l e R s m args below meth c T locs cells slots) (hx : p.tables.exec = Jvm.exec) (hby : c.code = bytes) (hlk : meth.locks = false) (hret : meth.sig.returnType = some .double) (hd : decode bytes pc = .ok (.dreturn, 1)) (hc : cells ≤ cC) (hs : slots ≤ cS) {z : UInt64}
    (hq : Q (some (.double z)) T.heap locs) : own_Got p e below (own_End s Q cC cS) T (mkF m pc ls (.double z :: st)) := by
  obtain ⟨fs, hr, hrun, hended, hW, hsame⟩ := X.leave (v := some (.double z)) (fun h => by rw [hret] at h; cases h) hlk
  exact ⟨_, _, retOut X hx hret rfl (Or.inr (Or.inr (Or.inl ⟨rfl, rfl, _, rfl⟩))) (hb hby hd) hr, hrun, hended, _, _, rfl, hq, ⟨_, rfl⟩, hW, hsame.mono hc hs⟩
theorem own_retN (X : Stand p l e R s m args below meth c T locs cells slots) (hx : p.tables.exec = Jvm.exec) (hby : c.code = bytes) (hlk : meth.locks = false) {t : FieldType} (hret : meth.sig.returnType = some t) (ht : t = .boolean ∨ t = .byte ∨ t = .char ∨ t = .short) (hd : decode bytes pc = .ok (.ireturn, 1)) (hc : cells ≤ cC) (hs : slots ≤ cS) {z : Int32}
    (hq : Q (some (.int (nar t z))) T.heap locs) : own_Got p e below (own_End s Q cC cS) T (mkF m pc ls (.int z :: st)) := by
  obtain ⟨fs, hr, hrun, hended, hW, hsame⟩ := X.leave (v := some (.int (nar t z))) (fun h => by rw [hret] at h; cases h) hlk
  exact ⟨_, _, retN X hx hret ht (hb hby hd) hr, hrun, hended, _, _, rfl, hq, ⟨_, rfl⟩, hW, hsame.mono hc hs⟩
theorem own_retR (X : Stand p l e R s m args below meth c T locs cells slots) (hx : p.tables.exec = Jvm.exec) (hby : c.code = bytes) (hlk : meth.locks = false) {t : FieldType} (hret : meth.sig.returnType = some t) (ht : t.isReference = true) (hd : decode bytes pc = .ok (.areturn, 1)) (hc : cells ≤ cC) (hs : slots ≤ cS) {w : Value} (hw : w.isRef = true)
    (hq : Q (some w) T.heap locs) : own_Got p e below (own_End s Q cC cS) T (mkF m pc ls (w :: st)) := by
  obtain ⟨fs, hr, hrun, hended, hW, hsame⟩ := X.leave (v := some w) (fun h => by rw [hret] at h; cases h) hlk
  have hn : narrow t w = w := by rcases ref_cases hw with rfl | ⟨a, rfl⟩ <;> cases t <;> first | rfl | (cases ht)
  exact ⟨_, _, retOut X hx hret hn (Or.inr (Or.inr (Or.inr (Or.inr ⟨rfl, ht, hw⟩)))) (hb hby hd) hr, hrun, hended, _, _, rfl, hq, ⟨_, rfl⟩, hW, hsame.mono hc hs⟩
theorem g_iloadN (X : Stand p l e R s m args below meth c T locs cells slots) (hx : p.tables.exec = Jvm.exec) (hby : c.code = bytes) {k : Fin 4} {v : Int32} (hd : decode bytes pc = .ok (.iload_n k, 1)) (hl : ls[k.val]? = some (.val (.int v))) (hp : pc + 1 = pc')
    (k : own_Got p e below P T (mkF m pc' ls (.int v :: st))) : own_Got p e below P T (mkF m pc ls (st)) := by
  subst hp; exact own_go (fun _ q => XS.iloadN X.here hx rfl (hb hby hd) hl q) k
theorem g_iload (X : Stand p l e R s m args below meth c T locs cells slots) (hx : p.tables.exec = Jvm.exec) (hby : c.code = bytes) {k : Nat} {v : Int32} (hd : decode bytes pc = .ok (.iload k, 2)) (hl : ls[k]? = some (.val (.int v))) (hp : pc + 2 = pc')
    (k : own_Got p e below P T (mkF m pc' ls (.int v :: st))) : own_Got p e below P T (mkF m pc ls (st)) := by
  subst hp; exact own_go (fun _ q => XS.iload X.here hx rfl (hb hby hd) hl q) k
theorem g_lloadN (X : Stand p l e R s m args below meth c T locs cells slots) (hx : p.tables.exec = Jvm.exec) (hby : c.code = bytes) {k : Fin 4} {v : Int64} (hd : decode bytes pc = .ok (.lload_n k, 1)) (hl : ls[k.val]? = some (.val (.long v))) (hp : pc + 1 = pc')
    (k : own_Got p e below P T (mkF m pc' ls (.long v :: st))) : own_Got p e below P T (mkF m pc ls (st)) := by
  subst hp; exact own_go (fun _ q => XS.lloadN X.here hx rfl (hb hby hd) hl q) k
theorem g_lload (X : Stand p l e R s m args below meth c T locs cells slots) (hx : p.tables.exec = Jvm.exec) (hby : c.code = bytes) {k : Nat} {v : Int64} (hd : decode bytes pc = .ok (.lload k, 2)) (hl : ls[k]? = some (.val (.long v))) (hp : pc + 2 = pc')
    (k : own_Got p e below P T (mkF m pc' ls (.long v :: st))) : own_Got p e below P T (mkF m pc ls (st)) := by
  subst hp; exact own_go (fun _ q => XS.lload X.here hx rfl (hb hby hd) hl q) k
theorem g_dloadN (X : Stand p l e R s m args below meth c T locs cells slots) (hx : p.tables.exec = Jvm.exec) (hby : c.code = bytes) {k : Fin 4} {v : UInt64} (hd : decode bytes pc = .ok (.dload_n k, 1)) (hl : ls[k.val]? = some (.val (.double v))) (hp : pc + 1 = pc')
    (k : own_Got p e below P T (mkF m pc' ls (.double v :: st))) : own_Got p e below P T (mkF m pc ls (st)) := by
  subst hp; exact own_go (fun _ q => XS.dloadN X.here hx rfl (hb hby hd) hl q) k
theorem g_dload (X : Stand p l e R s m args below meth c T locs cells slots) (hx : p.tables.exec = Jvm.exec) (hby : c.code = bytes) {k : Nat} {v : UInt64} (hd : decode bytes pc = .ok (.dload k, 2)) (hl : ls[k]? = some (.val (.double v))) (hp : pc + 2 = pc')
    (k : own_Got p e below P T (mkF m pc' ls (.double v :: st))) : own_Got p e below P T (mkF m pc ls (st)) := by
  subst hp; exact own_go (fun _ q => XS.dload X.here hx rfl (hb hby hd) hl q) k
theorem g_aloadN (X : Stand p l e R s m args below meth c T locs cells slots) (hx : p.tables.exec = Jvm.exec) (hby : c.code = bytes) {k : Fin 4} {v : Value} (hd : decode bytes pc = .ok (.aload_n k, 1)) (hl : ls[k.val]? = some (.val v)) (hv : v.isRef = true) (hp : pc + 1 = pc')
    (k : own_Got p e below P T (mkF m pc' ls (v :: st))) : own_Got p e below P T (mkF m pc ls (st)) := by
  subst hp; exact own_go (fun _ q => XS.aloadN X.here hx rfl (hb hby hd) hl hv q) k
theorem g_aload (X : Stand p l e R s m args below meth c T locs cells slots) (hx : p.tables.exec = Jvm.exec) (hby : c.code = bytes) {k : Nat} {v : Value} (hd : decode bytes pc = .ok (.aload k, 2)) (hl : ls[k]? = some (.val v)) (hv : v.isRef = true) (hp : pc + 2 = pc')
    (k : own_Got p e below P T (mkF m pc' ls (v :: st))) : own_Got p e below P T (mkF m pc ls (st)) := by
  subst hp; exact own_go (fun _ q => XS.aload X.here hx rfl (hb hby hd) hl hv q) k
theorem g_istoreN (X : Stand p l e R s m args below meth c T locs cells slots) (hx : p.tables.exec = Jvm.exec) (hby : c.code = bytes) {k : Fin 4} {x : Int32} (ls' : Array Slot) (hd : decode bytes pc = .ok (.istore_n k, 1)) (hl : storeLocals ls k.val (.int x) = some ls') (hp : pc + 1 = pc')
    (k : own_Got p e below P T (mkF m pc' ls' (st))) : own_Got p e below P T (mkF m pc ls (.int x :: st)) := by
  subst hp; exact own_go (fun _ q => XS.istoreN X.here hx rfl (hb hby hd) rfl hl q) k
theorem g_istore (X : Stand p l e R s m args below meth c T locs cells slots) (hx : p.tables.exec = Jvm.exec) (hby : c.code = bytes) {k : Nat} {x : Int32} (ls' : Array Slot) (hd : decode bytes pc = .ok (.istore k, 2)) (hl : storeLocals ls k (.int x) = some ls') (hp : pc + 2 = pc')
    (k : own_Got p e below P T (mkF m pc' ls' (st))) : own_Got p e below P T (mkF m pc ls (.int x :: st)) := by
  subst hp; exact own_go (fun _ q => XS.istore X.here hx rfl (hb hby hd) rfl hl q) k
theorem g_lstoreN (X : Stand p l e R s m args below meth c T locs cells slots) (hx : p.tables.exec = Jvm.exec) (hby : c.code = bytes) {k : Fin 4} {x : Int64} (ls' : Array Slot) (hd : decode bytes pc = .ok (.lstore_n k, 1)) (hl : storeLocals ls k.val (.long x) = some ls') (hp : pc + 1 = pc')
    (k : own_Got p e below P T (mkF m pc' ls' (st))) : own_Got p e below P T (mkF m pc ls (.long x :: st)) := by
  subst hp; exact own_go (fun _ q => XS.lstoreN X.here hx rfl (hb hby hd) rfl hl q) k
theorem g_lstore (X : Stand p l e R s m args below meth c T locs cells slots) (hx : p.tables.exec = Jvm.exec) (hby : c.code = bytes) {k : Nat} {x : Int64} (ls' : Array Slot) (hd : decode bytes pc = .ok (.lstore k, 2)) (hl : storeLocals ls k (.long x) = some ls') (hp : pc + 2 = pc')
    (k : own_Got p e below P T (mkF m pc' ls' (st))) : own_Got p e below P T (mkF m pc ls (.long x :: st)) := by
  subst hp; exact own_go (fun _ q => XS.lstore X.here hx rfl (hb hby hd) rfl hl q) k
theorem g_dstoreN (X : Stand p l e R s m args below meth c T locs cells slots) (hx : p.tables.exec = Jvm.exec) (hby : c.code = bytes) {k : Fin 4} {x : UInt64} (ls' : Array Slot) (hd : decode bytes pc = .ok (.dstore_n k, 1)) (hl : storeLocals ls k.val (.double x) = some ls') (hp : pc + 1 = pc')
    (k : own_Got p e below P T (mkF m pc' ls' (st))) : own_Got p e below P T (mkF m pc ls (.double x :: st)) := by
  subst hp; exact own_go (fun _ q => XS.dstoreN X.here hx rfl (hb hby hd) rfl hl q) k
theorem g_dstore (X : Stand p l e R s m args below meth c T locs cells slots) (hx : p.tables.exec = Jvm.exec) (hby : c.code = bytes) {k : Nat} {x : UInt64} (ls' : Array Slot) (hd : decode bytes pc = .ok (.dstore k, 2)) (hl : storeLocals ls k (.double x) = some ls') (hp : pc + 2 = pc')
    (k : own_Got p e below P T (mkF m pc' ls' (st))) : own_Got p e below P T (mkF m pc ls (.double x :: st)) := by
  subst hp; exact own_go (fun _ q => XS.dstore X.here hx rfl (hb hby hd) rfl hl q) k
theorem g_astoreN (X : Stand p l e R s m args below meth c T locs cells slots) (hx : p.tables.exec = Jvm.exec) (hby : c.code = bytes) {k : Fin 4} {x : Value} (ls' : Array Slot) (hd : decode bytes pc = .ok (.astore_n k, 1)) (hv : x.isRef = true) (hl : storeLocals ls k.val x = some ls') (hp : pc + 1 = pc')
    (k : own_Got p e below P T (mkF m pc' ls' (st))) : own_Got p e below P T (mkF m pc ls (x :: st)) := by
  subst hp; exact own_go (fun _ q => XS.astoreN X.here hx rfl (hb hby hd) rfl hv hl q) k
theorem g_astore (X : Stand p l e R s m args below meth c T locs cells slots) (hx : p.tables.exec = Jvm.exec) (hby : c.code = bytes) {k : Nat} {x : Value} (ls' : Array Slot) (hd : decode bytes pc = .ok (.astore k, 2)) (hv : x.isRef = true) (hl : storeLocals ls k x = some ls') (hp : pc + 2 = pc')
    (k : own_Got p e below P T (mkF m pc' ls' (st))) : own_Got p e below P T (mkF m pc ls (x :: st)) := by
  subst hp; exact own_go (fun _ q => XS.astore X.here hx rfl (hb hby hd) rfl hv hl q) k
theorem g_iconst (X : Stand p l e R s m args below meth c T locs cells slots) (hx : p.tables.exec = Jvm.exec) (hby : c.code = bytes) {i : Int} (z : Int32) (hd : decode bytes pc = .ok (.iconst i, 1)) (hz : Int32.ofInt i = z) (hp : pc + 1 = pc')
    (k : own_Got p e below P T (mkF m pc' ls (.int z :: st))) : own_Got p e below P T (mkF m pc ls (st)) := by
  subst hp; subst hz; exact own_go (fun _ q => XS.iconst X.here hx rfl (hb hby hd) q) k
theorem g_bipush (X : Stand p l e R s m args below meth c T locs cells slots) (hx : p.tables.exec = Jvm.exec) (hby : c.code = bytes) {i : Int} (z : Int32) (hd : decode bytes pc = .ok (.bipush i, 2)) (hz : (Int8.ofInt i).toInt32 = z) (hp : pc + 2 = pc')
    (k : own_Got p e below P T (mkF m pc' ls (.int z :: st))) : own_Got p e below P T (mkF m pc ls (st)) := by
  subst hp; subst hz; exact own_go (fun _ q => XS.bipush X.here hx rfl (hb hby hd) q) k
theorem g_sipush (X : Stand p l e R s m args below meth c T locs cells slots) (hx : p.tables.exec = Jvm.exec) (hby : c.code = bytes) {i : Int} (z : Int32) (hd : decode bytes pc = .ok (.sipush i, 3)) (hz : (Int16.ofInt i).toInt32 = z) (hp : pc + 3 = pc')
    (k : own_Got p e below P T (mkF m pc' ls (.int z :: st))) : own_Got p e below P T (mkF m pc ls (st)) := by
  subst hp; subst hz; exact own_go (fun _ q => XS.sipush X.here hx rfl (hb hby hd) q) k
theorem g_lconst (X : Stand p l e R s m args below meth c T locs cells slots) (hx : p.tables.exec = Jvm.exec) (hby : c.code = bytes) {i : Fin 2} (z : Int64) (hd : decode bytes pc = .ok (.lconst i, 1)) (hz : Int64.ofNat i.val = z) (hp : pc + 1 = pc')
    (k : own_Got p e below P T (mkF m pc' ls (.long z :: st))) : own_Got p e below P T (mkF m pc ls (st)) := by
  subst hp; subst hz; exact own_go (fun _ q => XS.lconst X.here hx rfl (hb hby hd) q) k
theorem g_anull (X : Stand p l e R s m args below meth c T locs cells slots) (hx : p.tables.exec = Jvm.exec) (hby : c.code = bytes)  (hd : decode bytes pc = .ok (.aconst_null, 1))  (hp : pc + 1 = pc')
    (k : own_Got p e below P T (mkF m pc' ls (.null :: st))) : own_Got p e below P T (mkF m pc ls (st)) := by
  subst hp; exact own_go (fun _ q => XS.aconstNull X.here hx rfl (hb hby hd) q) k
theorem g_iadd (X : Stand p l e R s m args below meth c T locs cells slots) (hx : p.tables.exec = Jvm.exec) (hby : c.code = bytes) {x y : Int32} (hd : decode bytes pc = .ok (.iadd, 1))  (hp : pc + 1 = pc')
    (k : own_Got p e below P T (mkF m pc' ls (.int (x + y) :: st))) : own_Got p e below P T (mkF m pc ls (.int y :: .int x :: st)) := by
  subst hp; exact own_go (fun _ q => XS.iadd X.here hx rfl (hb hby hd) rfl q) k
theorem g_isub (X : Stand p l e R s m args below meth c T locs cells slots) (hx : p.tables.exec = Jvm.exec) (hby : c.code = bytes) {x y : Int32} (hd : decode bytes pc = .ok (.isub, 1))  (hp : pc + 1 = pc')
    (k : own_Got p e below P T (mkF m pc' ls (.int (x - y) :: st))) : own_Got p e below P T (mkF m pc ls (.int y :: .int x :: st)) := by
  subst hp; exact own_go (fun _ q => XS.isub X.here hx rfl (hb hby hd) rfl q) k
theorem g_iand (X : Stand p l e R s m args below meth c T locs cells slots) (hx : p.tables.exec = Jvm.exec) (hby : c.code = bytes) {x y : Int32} (hd : decode bytes pc = .ok (.iand, 1))  (hp : pc + 1 = pc')
    (k : own_Got p e below P T (mkF m pc' ls (.int (x &&& y) :: st))) : own_Got p e below P T (mkF m pc ls (.int y :: .int x :: st)) := by
  subst hp; exact own_go (fun _ q => XS.iand X.here hx rfl (hb hby hd) rfl q) k
theorem g_ior (X : Stand p l e R s m args below meth c T locs cells slots) (hx : p.tables.exec = Jvm.exec) (hby : c.code = bytes) {x y : Int32} (hd : decode bytes pc = .ok (.ior, 1))  (hp : pc + 1 = pc')
    (k : own_Got p e below P T (mkF m pc' ls (.int (x ||| y) :: st))) : own_Got p e below P T (mkF m pc ls (.int y :: .int x :: st)) := by
  subst hp; exact own_go (fun _ q => XS.ior X.here hx rfl (hb hby hd) rfl q) k
theorem g_ixor (X : Stand p l e R s m args below meth c T locs cells slots) (hx : p.tables.exec = Jvm.exec) (hby : c.code = bytes) {x y : Int32} (hd : decode bytes pc = .ok (.ixor, 1))  (hp : pc + 1 = pc')
    (k : own_Got p e below P T (mkF m pc' ls (.int (x ^^^ y) :: st))) : own_Got p e below P T (mkF m pc ls (.int y :: .int x :: st)) := by
  subst hp; exact own_go (fun _ q => XS.ixor X.here hx rfl (hb hby hd) rfl q) k
theorem g_imul (X : Stand p l e R s m args below meth c T locs cells slots) (hx : p.tables.exec = Jvm.exec) (hby : c.code = bytes) {x y : Int32} (hd : decode bytes pc = .ok (.imul, 1))  (hp : pc + 1 = pc')
    (k : own_Got p e below P T (mkF m pc' ls (.int (x * y) :: st))) : own_Got p e below P T (mkF m pc ls (.int y :: .int x :: st)) := by
  subst hp; exact own_go (fun _ q => XS.imul X.here hx rfl (hb hby hd) rfl q) k
theorem g_ladd (X : Stand p l e R s m args below meth c T locs cells slots) (hx : p.tables.exec = Jvm.exec) (hby : c.code = bytes) {x y : Int64} (hd : decode bytes pc = .ok (.ladd, 1))  (hp : pc + 1 = pc')
    (k : own_Got p e below P T (mkF m pc' ls (.long (x + y) :: st))) : own_Got p e below P T (mkF m pc ls (.long y :: .long x :: st)) := by
  subst hp; exact own_go (fun _ q => XS.ladd X.here hx rfl (hb hby hd) rfl q) k
theorem g_lsub (X : Stand p l e R s m args below meth c T locs cells slots) (hx : p.tables.exec = Jvm.exec) (hby : c.code = bytes) {x y : Int64} (hd : decode bytes pc = .ok (.lsub, 1))  (hp : pc + 1 = pc')
    (k : own_Got p e below P T (mkF m pc' ls (.long (x - y) :: st))) : own_Got p e below P T (mkF m pc ls (.long y :: .long x :: st)) := by
  subst hp; exact own_go (fun _ q => XS.lsub X.here hx rfl (hb hby hd) rfl q) k
theorem g_land (X : Stand p l e R s m args below meth c T locs cells slots) (hx : p.tables.exec = Jvm.exec) (hby : c.code = bytes) {x y : Int64} (hd : decode bytes pc = .ok (.land, 1))  (hp : pc + 1 = pc')
    (k : own_Got p e below P T (mkF m pc' ls (.long (x &&& y) :: st))) : own_Got p e below P T (mkF m pc ls (.long y :: .long x :: st)) := by
  subst hp; exact own_go (fun _ q => XS.land X.here hx rfl (hb hby hd) rfl q) k
theorem g_lor (X : Stand p l e R s m args below meth c T locs cells slots) (hx : p.tables.exec = Jvm.exec) (hby : c.code = bytes) {x y : Int64} (hd : decode bytes pc = .ok (.lor, 1))  (hp : pc + 1 = pc')
    (k : own_Got p e below P T (mkF m pc' ls (.long (x ||| y) :: st))) : own_Got p e below P T (mkF m pc ls (.long y :: .long x :: st)) := by
  subst hp; exact own_go (fun _ q => XS.lor X.here hx rfl (hb hby hd) rfl q) k
theorem g_lxor (X : Stand p l e R s m args below meth c T locs cells slots) (hx : p.tables.exec = Jvm.exec) (hby : c.code = bytes) {x y : Int64} (hd : decode bytes pc = .ok (.lxor, 1))  (hp : pc + 1 = pc')
    (k : own_Got p e below P T (mkF m pc' ls (.long (x ^^^ y) :: st))) : own_Got p e below P T (mkF m pc ls (.long y :: .long x :: st)) := by
  subst hp; exact own_go (fun _ q => XS.lxor X.here hx rfl (hb hby hd) rfl q) k
theorem g_lmul (X : Stand p l e R s m args below meth c T locs cells slots) (hx : p.tables.exec = Jvm.exec) (hby : c.code = bytes) {x y : Int64} (hd : decode bytes pc = .ok (.lmul, 1))  (hp : pc + 1 = pc')
    (k : own_Got p e below P T (mkF m pc' ls (.long (x * y) :: st))) : own_Got p e below P T (mkF m pc ls (.long y :: .long x :: st)) := by
  subst hp; exact own_go (fun _ q => XS.lmul X.here hx rfl (hb hby hd) rfl q) k
theorem g_idiv (X : Stand p l e R s m args below meth c T locs cells slots) (hx : p.tables.exec = Jvm.exec) (hby : c.code = bytes) {x y : Int32} (hd : decode bytes pc = .ok (.idiv, 1)) (hy : y ≠ 0) (hp : pc + 1 = pc')
    (k : own_Got p e below P T (mkF m pc' ls (.int (x / y) :: st))) : own_Got p e below P T (mkF m pc ls (.int y :: .int x :: st)) := by
  subst hp; exact own_go (fun _ q => XS.idiv X.here hx rfl (hb hby hd) rfl hy q) k
theorem g_irem (X : Stand p l e R s m args below meth c T locs cells slots) (hx : p.tables.exec = Jvm.exec) (hby : c.code = bytes) {x y : Int32} (hd : decode bytes pc = .ok (.irem, 1)) (hy : y ≠ 0) (hp : pc + 1 = pc')
    (k : own_Got p e below P T (mkF m pc' ls (.int (x % y) :: st))) : own_Got p e below P T (mkF m pc ls (.int y :: .int x :: st)) := by
  subst hp; exact own_go (fun _ q => iremM X hx rfl (hb hby hd) rfl hy q) k
theorem g_ishl (X : Stand p l e R s m args below meth c T locs cells slots) (hx : p.tables.exec = Jvm.exec) (hby : c.code = bytes) {x y : Int32} (hd : decode bytes pc = .ok (.ishl, 1))  (hp : pc + 1 = pc')
    (k : own_Got p e below P T (mkF m pc' ls (.int (x <<< (y &&& 31)) :: st))) : own_Got p e below P T (mkF m pc ls (.int y :: .int x :: st)) := by
  subst hp; exact own_go (fun _ q => XS.ishl X.here hx rfl (hb hby hd) rfl q) k
theorem g_ishr (X : Stand p l e R s m args below meth c T locs cells slots) (hx : p.tables.exec = Jvm.exec) (hby : c.code = bytes) {x y : Int32} (hd : decode bytes pc = .ok (.ishr, 1))  (hp : pc + 1 = pc')
    (k : own_Got p e below P T (mkF m pc' ls (.int (x >>> (y &&& 31)) :: st))) : own_Got p e below P T (mkF m pc ls (.int y :: .int x :: st)) := by
  subst hp; exact own_go (fun _ q => XS.ishr X.here hx rfl (hb hby hd) rfl q) k
theorem g_iushr (X : Stand p l e R s m args below meth c T locs cells slots) (hx : p.tables.exec = Jvm.exec) (hby : c.code = bytes) {x y : Int32} (hd : decode bytes pc = .ok (.iushr, 1))  (hp : pc + 1 = pc')
    (k : own_Got p e below P T (mkF m pc' ls (.int ((x.toUInt32 >>> (y &&& 31).toUInt32).toInt32) :: st))) : own_Got p e below P T (mkF m pc ls (.int y :: .int x :: st)) := by
  subst hp; exact own_go (fun _ q => XS.iushr X.here hx rfl (hb hby hd) rfl q) k
theorem g_ineg (X : Stand p l e R s m args below meth c T locs cells slots) (hx : p.tables.exec = Jvm.exec) (hby : c.code = bytes) {x : Int32} (hd : decode bytes pc = .ok (.ineg, 1))  (hp : pc + 1 = pc')
    (k : own_Got p e below P T (mkF m pc' ls (.int (-x) :: st))) : own_Got p e below P T (mkF m pc ls (.int x :: st)) := by
  subst hp; exact own_go (fun _ q => XS.ineg X.here hx rfl (hb hby hd) rfl q) k
theorem g_i2b (X : Stand p l e R s m args below meth c T locs cells slots) (hx : p.tables.exec = Jvm.exec) (hby : c.code = bytes) {x : Int32} (hd : decode bytes pc = .ok (.i2b, 1))  (hp : pc + 1 = pc')
    (k : own_Got p e below P T (mkF m pc' ls (.int x.toInt8.toInt32 :: st))) : own_Got p e below P T (mkF m pc ls (.int x :: st)) := by
  subst hp; exact own_go (fun _ q => XS.i2b X.here hx rfl (hb hby hd) rfl q) k
theorem g_i2s (X : Stand p l e R s m args below meth c T locs cells slots) (hx : p.tables.exec = Jvm.exec) (hby : c.code = bytes) {x : Int32} (hd : decode bytes pc = .ok (.i2s, 1))  (hp : pc + 1 = pc')
    (k : own_Got p e below P T (mkF m pc' ls (.int x.toInt16.toInt32 :: st))) : own_Got p e below P T (mkF m pc ls (.int x :: st)) := by
  subst hp; exact own_go (fun _ q => XS.i2s X.here hx rfl (hb hby hd) rfl q) k
theorem g_i2c (X : Stand p l e R s m args below meth c T locs cells slots) (hx : p.tables.exec = Jvm.exec) (hby : c.code = bytes) {x : Int32} (hd : decode bytes pc = .ok (.i2c, 1))  (hp : pc + 1 = pc')
    (k : own_Got p e below P T (mkF m pc' ls (.int x.toUInt32.toUInt16.toUInt32.toInt32 :: st))) : own_Got p e below P T (mkF m pc ls (.int x :: st)) := by
  subst hp; exact own_go (fun _ q => XS.i2c X.here hx rfl (hb hby hd) rfl q) k
theorem g_i2l (X : Stand p l e R s m args below meth c T locs cells slots) (hx : p.tables.exec = Jvm.exec) (hby : c.code = bytes) {x : Int32} (hd : decode bytes pc = .ok (.i2l, 1))  (hp : pc + 1 = pc')
    (k : own_Got p e below P T (mkF m pc' ls (.long x.toInt64 :: st))) : own_Got p e below P T (mkF m pc ls (.int x :: st)) := by
  subst hp; exact own_go (fun _ q => XS.i2l X.here hx rfl (hb hby hd) rfl q) k
theorem g_lcmp (X : Stand p l e R s m args below meth c T locs cells slots) (hx : p.tables.exec = Jvm.exec) (hby : c.code = bytes) {x y : Int64} (hd : decode bytes pc = .ok (.lcmp, 1))  (hp : pc + 1 = pc')
    (k : own_Got p e below P T (mkF m pc' ls (.int (lcmpW x y) :: st))) : own_Got p e below P T (mkF m pc ls (.long y :: .long x :: st)) := by
  subst hp; exact own_go (fun _ q => XS.lcmp X.here hx rfl (hb hby hd) rfl q) k
theorem g_iinc (X : Stand p l e R s m args below meth c T locs cells slots) (hx : p.tables.exec = Jvm.exec) (hby : c.code = bytes) {k : Nat} {cst : Int} {x : Int32} (ls' : Array Slot) (hd : decode bytes pc = .ok (.iinc k cst, 3)) (hl : ls[k]? = some (.val (.int x))) (hl' : storeLocals ls k (.int (x + Int32.ofInt cst)) = some ls') (hp : pc + 3 = pc')
    (k : own_Got p e below P T (mkF m pc' ls' (st))) : own_Got p e below P T (mkF m pc ls (st)) := by
  subst hp; exact own_go (fun _ q => XS.iinc X.here hx rfl (hb hby hd) hl hl' q) k
theorem g_dup (X : Stand p l e R s m args below meth c T locs cells slots) (hx : p.tables.exec = Jvm.exec) (hby : c.code = bytes) {x : Value} (hd : decode bytes pc = .ok (.dup, 1)) (hc : x.category = 1) (hp : pc + 1 = pc')
    (k : own_Got p e below P T (mkF m pc' ls (x :: x :: st))) : own_Got p e below P T (mkF m pc ls (x :: st)) := by
  subst hp; exact own_go (fun _ q => XS.dup X.here hx rfl (hb hby hd) rfl hc q) k
theorem g_dupX1 (X : Stand p l e R s m args below meth c T locs cells slots) (hx : p.tables.exec = Jvm.exec) (hby : c.code = bytes) {x y : Value} (hd : decode bytes pc = .ok (.dup_x1, 1)) (hc : x.category = 1) (hc2 : y.category = 1) (hp : pc + 1 = pc')
    (k : own_Got p e below P T (mkF m pc' ls (x :: y :: x :: st))) : own_Got p e below P T (mkF m pc ls (x :: y :: st)) := by
  subst hp; exact own_go (fun _ q => XS.dupX1 X.here hx rfl (hb hby hd) rfl hc hc2 q) k
theorem g_pop (X : Stand p l e R s m args below meth c T locs cells slots) (hx : p.tables.exec = Jvm.exec) (hby : c.code = bytes) {x : Value} (hd : decode bytes pc = .ok (.pop, 1)) (hc : x.category = 1) (hp : pc + 1 = pc')
    (k : own_Got p e below P T (mkF m pc' ls (st))) : own_Got p e below P T (mkF m pc ls (x :: st)) := by
  subst hp; exact own_go (fun _ q => XS.pop X.here hx rfl (hb hby hd) rfl hc q) k
theorem g_dup2 (X : Stand p l e R s m args below meth c T locs cells slots) (hx : p.tables.exec = Jvm.exec) (hby : c.code = bytes) {x y : Value} (hd : decode bytes pc = .ok (.dup2, 1)) (hc : x.category = 1) (hc2 : y.category = 1) (hp : pc + 1 = pc')
    (k : own_Got p e below P T (mkF m pc' ls (x :: y :: x :: y :: st))) : own_Got p e below P T (mkF m pc ls (x :: y :: st)) := by
  subst hp; exact own_go (fun _ q => XT.dup2 X.here hx rfl (hb hby hd) rfl hc hc2 q) k
theorem g_goto (X : Stand p l e R s m args below meth c T locs cells slots) (hx : p.tables.exec = Jvm.exec) (hby : c.code = bytes) {o : Int} (hd : decode bytes pc = .ok (.goto o, 3))  (ho : 0 ≤ (pc : Int) + o) (hp : ((pc : Int) + o).toNat = pc')
    (k : own_Got p e below P T (mkF m pc' ls (st))) : own_Got p e below P T (mkF m pc ls (st)) := by
  exact own_go (fun _ q => XS.goto X.here hx rfl rfl (hb hby hd) ho hp q) k
theorem g_ifT (X : Stand p l e R s m args below meth c T locs cells slots) (hx : p.tables.exec = Jvm.exec) (hby : c.code = bytes) {cd : ClassFile.Cond} {x : Int32} {o : Int} (hd : decode bytes pc = .ok (.ifCond cd o, 3)) (hc : ifCond.holds cd x = true) (ho : 0 ≤ (pc : Int) + o) (hp : ((pc : Int) + o).toNat = pc')
    (k : own_Got p e below P T (mkF m pc' ls (st))) : own_Got p e below P T (mkF m pc ls (.int x :: st)) := by
  exact own_go (fun _ q => XS.ifYes X.here hx rfl rfl (hb hby hd) rfl hc ho hp q) k
theorem g_icT (X : Stand p l e R s m args below meth c T locs cells slots) (hx : p.tables.exec = Jvm.exec) (hby : c.code = bytes) {cd : ClassFile.Cond} {x y : Int32} {o : Int} (hd : decode bytes pc = .ok (.if_icmp cd o, 3)) (hc : if_icmp.holds cd x y = true) (ho : 0 ≤ (pc : Int) + o) (hp : ((pc : Int) + o).toNat = pc')
    (k : own_Got p e below P T (mkF m pc' ls (st))) : own_Got p e below P T (mkF m pc ls (.int y :: .int x :: st)) := by
  exact own_go (fun _ q => XS.icmpYes X.here hx rfl rfl (hb hby hd) rfl hc ho hp q) k
theorem g_inT (X : Stand p l e R s m args below meth c T locs cells slots) (hx : p.tables.exec = Jvm.exec) (hby : c.code = bytes) {o : Int} (hd : decode bytes pc = .ok (.ifnull o, 3))  (ho : 0 ≤ (pc : Int) + o) (hp : ((pc : Int) + o).toNat = pc')
    (k : own_Got p e below P T (mkF m pc' ls (st))) : own_Got p e below P T (mkF m pc ls (.null :: st)) := by
  exact own_go (fun _ q => XS.ifnullYes X.here hx rfl rfl (hb hby hd) rfl ho hp q) k
theorem g_innT (X : Stand p l e R s m args below meth c T locs cells slots) (hx : p.tables.exec = Jvm.exec) (hby : c.code = bytes) {b : Addr} {o : Int} (hd : decode bytes pc = .ok (.ifnonnull o, 3))  (ho : 0 ≤ (pc : Int) + o) (hp : ((pc : Int) + o).toNat = pc')
    (k : own_Got p e below P T (mkF m pc' ls (st))) : own_Got p e below P T (mkF m pc ls (.ref b :: st)) := by
  exact own_go (fun _ q => XS.ifnonnullYes X.here hx rfl rfl (hb hby hd) rfl ho hp q) k
theorem g_ifF (X : Stand p l e R s m args below meth c T locs cells slots) (hx : p.tables.exec = Jvm.exec) (hby : c.code = bytes) {cd : ClassFile.Cond} {o : Int} {x : Int32} (hd : decode bytes pc = .ok (.ifCond cd o, 3)) (hc : ifCond.holds cd x = false) (hp : pc + 3 = pc')
    (k : own_Got p e below P T (mkF m pc' ls (st))) : own_Got p e below P T (mkF m pc ls (.int x :: st)) := by
  subst hp; exact own_go (fun _ q => XS.ifNo X.here hx rfl (hb hby hd) rfl hc q) k
theorem g_icF (X : Stand p l e R s m args below meth c T locs cells slots) (hx : p.tables.exec = Jvm.exec) (hby : c.code = bytes) {cd : ClassFile.Cond} {o : Int} {x y : Int32} (hd : decode bytes pc = .ok (.if_icmp cd o, 3)) (hc : if_icmp.holds cd x y = false) (hp : pc + 3 = pc')
    (k : own_Got p e below P T (mkF m pc' ls (st))) : own_Got p e below P T (mkF m pc ls (.int y :: .int x :: st)) := by
  subst hp; exact own_go (fun _ q => XS.icmpNo X.here hx rfl (hb hby hd) rfl hc q) k
theorem g_inF (X : Stand p l e R s m args below meth c T locs cells slots) (hx : p.tables.exec = Jvm.exec) (hby : c.code = bytes) {o : Int} {b : Addr} (hd : decode bytes pc = .ok (.ifnull o, 3))  (hp : pc + 3 = pc')
    (k : own_Got p e below P T (mkF m pc' ls (st))) : own_Got p e below P T (mkF m pc ls (.ref b :: st)) := by
  subst hp; exact own_go (fun _ q => XS.ifnullNo X.here hx rfl (hb hby hd) rfl q) k
theorem g_innF (X : Stand p l e R s m args below meth c T locs cells slots) (hx : p.tables.exec = Jvm.exec) (hby : c.code = bytes) {o : Int} (hd : decode bytes pc = .ok (.ifnonnull o, 3))  (hp : pc + 3 = pc')
    (k : own_Got p e below P T (mkF m pc' ls (st))) : own_Got p e below P T (mkF m pc ls (.null :: st)) := by
  subst hp; exact own_go (fun _ q => XS.ifnonnullNo X.here hx rfl (hb hby hd) rfl q) k
theorem g_acmp (X : Stand p l e R s m args below meth c T locs cells slots) (hx : p.tables.exec = Jvm.exec) (hby : c.code = bytes) {cd : ACond} {x y : Value} {o : Int} (same : Bool) (hd : decode bytes pc = .ok (.if_acmp cd o, 3)) (h1 : x.isRef = true) (h2 : y.isRef = true) (hq : decide (x = y) = same) (ho : 0 ≤ (pc : Int) + o) (hp : pc' = if acV cd same = true then ((pc : Int) + o).toNat else pc + 3)
    (k : own_Got p e below P T (mkF m pc' ls st)) : own_Got p e below P T (mkF m pc ls (y :: x :: st)) :=
  own_go (fun _ q => Jvm.RoadKit.acmp X hx rfl h1 h2 rfl (hb hby hd) rfl hq ho hp q) k
theorem g_ldcI (X : Stand p l e R s m args below meth c T locs cells slots) (hx : p.tables.exec = Jvm.exec) (hby : c.code = bytes) (hZ : Z.Warmed39 s.vm) {own : String} {index : Nat} {v : Int32} (hown : s.vm.findClass own = some m.cls) (w : (Cond.constant own index v).before a0 Z = true) (hd : decode bytes pc = .ok (.ldc index, 2)) (hp : pc + 2 = pc')
    (k : own_Got p e below P T (mkF m pc' ls (.int v :: st))) : own_Got p e below P T (mkF m pc ls st) := by
  subst hp; exact own_go (X.ldcInt hx hown (mvT hZ w) rfl (hb hby hd)) k
theorem g_ldc2D (X : Stand p l e R s m args below meth c T locs cells slots) (hx : p.tables.exec = Jvm.exec) (hby : c.code = bytes) (hZ : Z.Warmed39 s.vm) {own : String} {index : Nat} {v : UInt64} (hown : s.vm.findClass own = some m.cls) (w : (Cond.constantDouble own index v).before a0 Z = true) (hd : decode bytes pc = .ok (.ldc2_w index, 3)) (hp : pc + 3 = pc')
    (k : own_Got p e below P T (mkF m pc' ls (.double v :: st))) : own_Got p e below P T (mkF m pc ls st) := by
  subst hp; exact own_go (X.ldc2DoubleC hx hown (mvT hZ w) rfl (hb hby hd)) k
theorem g_alen (X : Stand p l e R s m args below meth c T locs cells slots) (hx : p.tables.exec = Jvm.exec) (hby : c.code = bytes) (hZ : Z.Warmed39 s.vm) (eT : T.heap = h) {a : Addr} {kk : ClassId} {ty : FieldType} {n : Int32} {vs : List Value} {d : Value} (F : Arv Z h a kk ty n vs d) (hd : decode bytes pc = .ok (.arraylength, 1)) (hp : pc + 1 = pc')
    (k : own_Got p e below P T (mkF m pc' ls (.int n :: st))) : own_Got p e below P T (mkF m pc ls (.ref a :: st)) := by
  subst hp
  obtain ⟨cl, Ar, -, S, N, -, -⟩ := F
  refine own_go (fun t q => X.arraylength hx (by rw [eT]; exact Ar.1) (State.isArrayOf_alike hZ.alike Ar.2.1) (g := mkF m pc ls (.ref a :: st)) rfl rfl (hb hby hd) t q) ?_
  rw [len_of S N]; exact k
theorem g_iaload (X : Stand p l e R s m args below meth c T locs cells slots) (hx : p.tables.exec = Jvm.exec) (hby : c.code = bytes) (hZ : Z.Warmed39 s.vm) (eT : T.heap = h) {a : Addr} {kk : ClassId} {n : Int32} {vs : List Value} {d v : Value} {j : Int32} (F : Arv Z h a kk .int n vs d) (hj : ¬ j < 0 ∧ j < n) (hv : vs.getD j.toNatClampNeg d = v) (hd : decode bytes pc = .ok (.iaload, 1)) (hp : pc + 1 = pc')
    (k : own_Got p e below P T (mkF m pc' ls (v :: st))) : own_Got p e below P T (mkF m pc ls (.int j :: .ref a :: st)) := by
  subst hp
  obtain ⟨cl, Ar, -, S, N, H, -⟩ := F
  exact own_go (fun t q => X.iaload hx (by rw [eT]; exact Ar.1) (State.isArrayOf_alike hZ.alike Ar.2.1) Ar.2.2 (inb_of S hj) (H.at (inb_of S hj) hv) (g := mkF m pc ls (.int j :: .ref a :: st)) rfl rfl (hb hby hd) t q) k
theorem g_caload (X : Stand p l e R s m args below meth c T locs cells slots) (hx : p.tables.exec = Jvm.exec) (hby : c.code = bytes) (hZ : Z.Warmed39 s.vm) (eT : T.heap = h) {a : Addr} {kk : ClassId} {n : Int32} {vs : List Value} {d v : Value} {j : Int32} (F : Arv Z h a kk .char n vs d) (hj : ¬ j < 0 ∧ j < n) (hv : vs.getD j.toNatClampNeg d = v) (hd : decode bytes pc = .ok (.caload, 1)) (hp : pc + 1 = pc')
    (k : own_Got p e below P T (mkF m pc' ls (v :: st))) : own_Got p e below P T (mkF m pc ls (.int j :: .ref a :: st)) := by
  subst hp
  obtain ⟨cl, Ar, -, S, N, H, -⟩ := F
  exact own_go (fun t q => X.caload hx (by rw [eT]; exact Ar.1) (State.isArrayOf_alike hZ.alike Ar.2.1) Ar.2.2 (inb_of S hj) (H.at (inb_of S hj) hv) (g := mkF m pc ls (.int j :: .ref a :: st)) rfl rfl (hb hby hd) t q) k
theorem g_laload (X : Stand p l e R s m args below meth c T locs cells slots) (hx : p.tables.exec = Jvm.exec) (hby : c.code = bytes) (hZ : Z.Warmed39 s.vm) (eT : T.heap = h) {a : Addr} {kk : ClassId} {n : Int32} {vs : List Value} {d v : Value} {j : Int32} (F : Arv Z h a kk .long n vs d) (hj : ¬ j < 0 ∧ j < n) (hv : vs.getD j.toNatClampNeg d = v) (hd : decode bytes pc = .ok (.laload, 1)) (hp : pc + 1 = pc')
    (k : own_Got p e below P T (mkF m pc' ls (v :: st))) : own_Got p e below P T (mkF m pc ls (.int j :: .ref a :: st)) := by
  subst hp
  obtain ⟨cl, Ar, -, S, N, H, -⟩ := F
  exact own_go (fun t q => X.laload hx (by rw [eT]; exact Ar.1) (State.isArrayOf_alike hZ.alike Ar.2.1) Ar.2.2 (inb_of S hj) (H.at (inb_of S hj) hv) (g := mkF m pc ls (.int j :: .ref a :: st)) rfl rfl (hb hby hd) t q) k
theorem g_baload (X : Stand p l e R s m args below meth c T locs cells slots) (hx : p.tables.exec = Jvm.exec) (hby : c.code = bytes) (hZ : Z.Warmed39 s.vm) (eT : T.heap = h) {a : Addr} {kk : ClassId} {n : Int32} {vs : List Value} {d v : Value} {j : Int32} (F : Arv Z h a kk .byte n vs d) (hj : ¬ j < 0 ∧ j < n) (hv : vs.getD j.toNatClampNeg d = v) (hd : decode bytes pc = .ok (.baload, 1)) (hp : pc + 1 = pc')
    (k : own_Got p e below P T (mkF m pc' ls (v :: st))) : own_Got p e below P T (mkF m pc ls (.int j :: .ref a :: st)) := by
  subst hp
  obtain ⟨cl, Ar, -, S, N, H, -⟩ := F
  exact own_go (fun t q => X.baloadBytes hx (by rw [eT]; exact Ar.1) (State.isArrayOf_alike hZ.alike Ar.2.1) Ar.2.2 (inb_of S hj) (H.at (inb_of S hj) hv) (g := mkF m pc ls (.int j :: .ref a :: st)) rfl rfl (hb hby hd) t q) k
theorem g_daload (X : Stand p l e R s m args below meth c T locs cells slots) (hx : p.tables.exec = Jvm.exec) (hby : c.code = bytes) (hZ : Z.Warmed39 s.vm) (eT : T.heap = h) {a : Addr} {kk : ClassId} {n : Int32} {vs : List Value} {d v : Value} {j : Int32} (F : Arv Z h a kk .double n vs d) (hj : ¬ j < 0 ∧ j < n) (hv : vs.getD j.toNatClampNeg d = v) (hd : decode bytes pc = .ok (.daload, 1)) (hp : pc + 1 = pc')
    (k : own_Got p e below P T (mkF m pc' ls (v :: st))) : own_Got p e below P T (mkF m pc ls (.int j :: .ref a :: st)) := by
  subst hp
  obtain ⟨cl, Ar, -, S, N, H, -⟩ := F
  exact own_go (fun t q => X.daload hx (by rw [eT]; exact Ar.1) (State.isArrayOf_alike hZ.alike Ar.2.1) Ar.2.2 (inb_of S hj) (H.at (inb_of S hj) hv) (g := mkF m pc ls (.int j :: .ref a :: st)) rfl rfl (hb hby hd) t q) k
theorem g_aaload (X : Stand p l e R s m args below meth c T locs cells slots) (hx : p.tables.exec = Jvm.exec) (hby : c.code = bytes) (hZ : Z.Warmed39 s.vm) (eT : T.heap = h) {a : Addr} {kk : ClassId} {ty : FieldType} {n : Int32} {vs : List Value} {d v : Value} {j : Int32} (F : Arv Z h a kk ty n vs d) (ht : ty.isReference = true) (hj : ¬ j < 0 ∧ j < n) (hv : vs.getD j.toNatClampNeg d = v) (hd : decode bytes pc = .ok (.aaload, 1)) (hp : pc + 1 = pc')
    (k : own_Got p e below P T (mkF m pc' ls (v :: st))) : own_Got p e below P T (mkF m pc ls (.int j :: .ref a :: st)) := by
  subst hp
  obtain ⟨cl, Ar, -, S, N, H, -⟩ := F
  exact own_go (fun t q => X.aaload hx (by rw [eT]; exact Ar.1) (State.isArrayOf_alike hZ.alike Ar.2.1) ht Ar.2.2 (inb_of S hj) (H.at (inb_of S hj) hv) (g := mkF m pc ls (.int j :: .ref a :: st)) rfl rfl (hb hby hd) t q) k
theorem a_iastore (X : Stand p l e R s m args below meth c T locs cells slots) (hx : p.tables.exec = Jvm.exec) (hby : c.code = bytes) (hZ : Z.Warmed39 s.vm) (eT : T.heap = h) {a : Addr} {kk : ClassId} {n : Int32} {vs : List Value} {d : Value} {j : Int32} (x : Int32) (i : Nat) (F : Arv Z h a kk .int n vs d) (hj : ¬ j < 0 ∧ j < n) (hi : j.toNatClampNeg = i) (hl : i < vs.length) (hd : decode bytes pc = .ok (.iastore, 1)) :
    ∃ T' h', Stand p l e R s m args below meth c T' (locs ++ [⟨a, j.toNatClampNeg⟩]) cells slots ∧ T'.heap = h' ∧ Wr h h' a j.toNatClampNeg (.int x) ∧ Arv Z h' a kk .int n (vs.set i (.int x)) d ∧ ∀ t, Steps p.tables e below (T'.setTop (mkF m (pc + 1) ls st)) t → Steps p.tables e below (T.setTop (mkF m pc ls (.int x :: .int j :: .ref a :: st))) t := by
  obtain ⟨cl, Ar, q1, S, N, H, Gf⟩ := F
  obtain ⟨T', h', X', e', W, k⟩ := stI X hx hZ eT Ar (j := j) (inb_of S hj) (g := mkF m pc ls (.int x :: .int j :: .ref a :: st)) rfl rfl (hb hby hd)
  exact ⟨T', h', X', e', W, Arv.set Ar q1 S N H Gf (rfl) W i hi hl, k⟩
theorem a_castore (X : Stand p l e R s m args below meth c T locs cells slots) (hx : p.tables.exec = Jvm.exec) (hby : c.code = bytes) (hZ : Z.Warmed39 s.vm) (eT : T.heap = h) {a : Addr} {kk : ClassId} {n : Int32} {vs : List Value} {d : Value} {j : Int32} (x : Int32) (i : Nat) (F : Arv Z h a kk .char n vs d) (hj : ¬ j < 0 ∧ j < n) (hi : j.toNatClampNeg = i) (hl : i < vs.length) (hd : decode bytes pc = .ok (.castore, 1)) :
    ∃ T' h', Stand p l e R s m args below meth c T' (locs ++ [⟨a, j.toNatClampNeg⟩]) cells slots ∧ T'.heap = h' ∧ Wr h h' a j.toNatClampNeg (.int (nar .char x)) ∧ Arv Z h' a kk .char n (vs.set i (.int (nar .char x))) d ∧ ∀ t, Steps p.tables e below (T'.setTop (mkF m (pc + 1) ls st)) t → Steps p.tables e below (T.setTop (mkF m pc ls (.int x :: .int j :: .ref a :: st))) t := by
  obtain ⟨cl, Ar, q1, S, N, H, Gf⟩ := F
  obtain ⟨T', h', X', e', W, k⟩ := stC X hx hZ eT Ar (j := j) (inb_of S hj) (g := mkF m pc ls (.int x :: .int j :: .ref a :: st)) rfl rfl (hb hby hd)
  exact ⟨T', h', X', e', W, Arv.set Ar q1 S N H Gf (fits_nar_char _) W i hi hl, k⟩
theorem a_bastore (X : Stand p l e R s m args below meth c T locs cells slots) (hx : p.tables.exec = Jvm.exec) (hby : c.code = bytes) (hZ : Z.Warmed39 s.vm) (eT : T.heap = h) {a : Addr} {kk : ClassId} {n : Int32} {vs : List Value} {d : Value} {j : Int32} (x : Int32) (i : Nat) (F : Arv Z h a kk .byte n vs d) (hj : ¬ j < 0 ∧ j < n) (hi : j.toNatClampNeg = i) (hl : i < vs.length) (hd : decode bytes pc = .ok (.bastore, 1)) :
    ∃ T' h', Stand p l e R s m args below meth c T' (locs ++ [⟨a, j.toNatClampNeg⟩]) cells slots ∧ T'.heap = h' ∧ Wr h h' a j.toNatClampNeg (.int (nar .byte x)) ∧ Arv Z h' a kk .byte n (vs.set i (.int (nar .byte x))) d ∧ ∀ t, Steps p.tables e below (T'.setTop (mkF m (pc + 1) ls st)) t → Steps p.tables e below (T.setTop (mkF m pc ls (.int x :: .int j :: .ref a :: st))) t := by
  obtain ⟨cl, Ar, q1, S, N, H, Gf⟩ := F
  obtain ⟨T', h', X', e', W, k⟩ := stB X hx hZ eT Ar (j := j) (inb_of S hj) (g := mkF m pc ls (.int x :: .int j :: .ref a :: st)) rfl rfl (hb hby hd)
  exact ⟨T', h', X', e', W, Arv.set Ar q1 S N H Gf (fits_nar_byte _) W i hi hl, k⟩
theorem a_lastore (X : Stand p l e R s m args below meth c T locs cells slots) (hx : p.tables.exec = Jvm.exec) (hby : c.code = bytes) (hZ : Z.Warmed39 s.vm) (eT : T.heap = h) {a : Addr} {kk : ClassId} {n : Int32} {vs : List Value} {d : Value} {j : Int32} (x : Int64) (i : Nat) (F : Arv Z h a kk .long n vs d) (hj : ¬ j < 0 ∧ j < n) (hi : j.toNatClampNeg = i) (hl : i < vs.length) (hd : decode bytes pc = .ok (.lastore, 1)) :
    ∃ T' h', Stand p l e R s m args below meth c T' (locs ++ [⟨a, j.toNatClampNeg⟩]) cells slots ∧ T'.heap = h' ∧ Wr h h' a j.toNatClampNeg (.long x) ∧ Arv Z h' a kk .long n (vs.set i (.long x)) d ∧ ∀ t, Steps p.tables e below (T'.setTop (mkF m (pc + 1) ls st)) t → Steps p.tables e below (T.setTop (mkF m pc ls (.long x :: .int j :: .ref a :: st))) t := by
  obtain ⟨cl, Ar, q1, S, N, H, Gf⟩ := F
  obtain ⟨T', h', X', e', W, k⟩ := stJ X hx hZ eT Ar (j := j) (inb_of S hj) (g := mkF m pc ls (.long x :: .int j :: .ref a :: st)) rfl rfl (hb hby hd)
  exact ⟨T', h', X', e', W, Arv.set Ar q1 S N H Gf (rfl) W i hi hl, k⟩
theorem a_dastore (X : Stand p l e R s m args below meth c T locs cells slots) (hx : p.tables.exec = Jvm.exec) (hby : c.code = bytes) (hZ : Z.Warmed39 s.vm) (eT : T.heap = h) {a : Addr} {kk : ClassId} {n : Int32} {vs : List Value} {d : Value} {j : Int32} (x : UInt64) (i : Nat) (F : Arv Z h a kk .double n vs d) (hj : ¬ j < 0 ∧ j < n) (hi : j.toNatClampNeg = i) (hl : i < vs.length) (hd : decode bytes pc = .ok (.dastore, 1)) :
    ∃ T' h', Stand p l e R s m args below meth c T' (locs ++ [⟨a, j.toNatClampNeg⟩]) cells slots ∧ T'.heap = h' ∧ Wr h h' a j.toNatClampNeg (.double x) ∧ Arv Z h' a kk .double n (vs.set i (.double x)) d ∧ ∀ t, Steps p.tables e below (T'.setTop (mkF m (pc + 1) ls st)) t → Steps p.tables e below (T.setTop (mkF m pc ls (.double x :: .int j :: .ref a :: st))) t := by
  obtain ⟨cl, Ar, q1, S, N, H, Gf⟩ := F
  obtain ⟨T', h', X', e', W, k⟩ := stD X hx hZ eT Ar (j := j) (inb_of S hj) (g := mkF m pc ls (.double x :: .int j :: .ref a :: st)) rfl rfl (hb hby hd)
  exact ⟨T', h', X', e', W, Arv.set Ar q1 S N H Gf (rfl) W i hi hl, k⟩
theorem a_aastore (X : Stand p l e R s m args below meth c T locs cells slots) (hx : p.tables.exec = Jvm.exec) (hby : c.code = bytes) (hZ : Z.Warmed39 s.vm) (eT : T.heap = h) {a b : Addr} {kk : ClassId} {Cn : String} {n : Int32} {vs : List Value} {d : Value} {j : Int32} (i : Nat) (F : Arv Z h a kk (.object Cn) n vs d) (O : Ovr Z kk Cn) (I : Ins Z h b Cn true) (hj : ¬ j < 0 ∧ j < n) (hi : j.toNatClampNeg = i) (hl : i < vs.length) (hd : decode bytes pc = .ok (.aastore, 1)) :
    ∃ T' h', Stand p l e R s m args below meth c T' (locs ++ [⟨a, j.toNatClampNeg⟩]) cells slots ∧ T'.heap = h' ∧ Wr h h' a j.toNatClampNeg (.ref b) ∧ Arv Z h' a kk (.object Cn) n (vs.set i (.ref b)) d ∧ ∀ t, Steps p.tables e below (T'.setTop (mkF m (pc + 1) ls st)) t → Steps p.tables e below (T.setTop (mkF m pc ls (.ref b :: .int j :: .ref a :: st))) t := by
  obtain ⟨cl, Ar, q1, S, N, H, Gf⟩ := F
  obtain ⟨T', h', X', e', W, k⟩ := stR X hx hZ eT Ar (j := j) (inb_of S hj) rfl (Sto.ofV Ar q1 O I) (g := mkF m pc ls (.ref b :: .int j :: .ref a :: st)) rfl rfl (hb hby hd)
  exact ⟨T', h', X', e', W, Arv.set Ar q1 S N H Gf rfl W i hi hl, k⟩
theorem own_stakeep {C n d : String} {v : Value} {K : String} {a : Addr} (F : Sta Z h C n d v) (k : Keep h h' [a]) (E : Exa Z h a K) : Sta Z h' C n d v := by
  obtain ⟨cf, i, kk, f, st, cell, h1, h2, h3, h4, h5, h6, h7⟩ := F
  refine ⟨cf, i, kk, f, st, cell, h1, h2, h3, h4, k.2.1 _ _ h5 (fun q => ?_), h6, h7⟩
  obtain ⟨c2, k2, g1, -, -, g4, -⟩ := E
  cases List.mem_singleton.mp q
  cases h5.symm.trans g1
  rw [g4] at h6; cases h6
theorem own_stakeep0 {C n d : String} {v : Value} (F : Sta Z h C n d v) (k : Keep h h' []) : Sta Z h' C n d v := by
  obtain ⟨cf, i, kk, f, st, cell, h1, h2, h3, h4, h5, h6, h7⟩ := F
  exact ⟨cf, i, kk, f, st, cell, h1, h2, h3, h4, k.2.1 _ _ h5 nin0, h6, h7⟩
theorem own_eqI {t : Term} {first : State} {o : Option Outcome} {idx : List Nat} {z : Int32} (hq : (Cond.eq t (.int z)).value args first o s idx = some true) : t.eval args first o idx s = some (.int z) := by
  obtain ⟨x, y, hx, hy, kk, -⟩ := cmp_v (Or.inl hq)
  have hy' : y = .int z := Option.some.inj (hy.symm.trans rfl)
  subst hy'
  cases x with
  | int x => simp only [Cond.value, hx, hy] at hq; simp at hq; rw [hx, hq]
  | _ => simp [Kin, Value.isRef] at kk
theorem own_eqR {t u : Term} {first : State} {o : Option Outcome} {idx : List Nat} {b : Addr} (hq : (Cond.eq t u).value args first o s idx = some true) (hu : u.eval args first o idx s = some (.ref b)) : t.eval args first o idx s = some (.ref b) := by
  obtain ⟨x, y, hx, hy, kk, kk2⟩ := cmp_v (Or.inl hq)
  cases hu.symm.trans hy
  have hr : x.isRef = true := kk2.2
  have := gotT (eq_R hx hu hr rfl) hq
  rw [hx, this]
theorem g_i2d (X : Stand p l e R s m args below meth c T locs cells slots) (hx : p.tables.exec = Jvm.exec) (hby : c.code = bytes) {x : Int32} (hd : decode bytes pc = .ok (.i2d, 1))  (hp : pc + 1 = pc')
    (k : own_Got p e below P T (mkF m pc' ls (.double (FP.i2d x) :: st))) : own_Got p e below P T (mkF m pc ls (.int x :: st)) := by
  subst hp; exact own_go (fun _ q => XS.i2dS X.here hx rfl (hb hby hd) rfl rfl q) k
theorem g_dcmp (X : Stand p l e R s m args below meth c T locs cells slots) (hx : p.tables.exec = Jvm.exec) (hby : c.code = bytes) {o : CmpOp} {x y : UInt64} (hd : decode bytes pc = .ok (.dcmp o, 1))  (hp : pc + 1 = pc')
    (k : own_Got p e below P T (mkF m pc' ls (.int (cmpValue (FP.dcmp x y) o) :: st))) : own_Got p e below P T (mkF m pc ls (.double y :: .double x :: st)) := by
  subst hp; exact own_go (fun _ q => XS.dcmpS X.here hx rfl (hb hby hd) rfl rfl q) k
theorem g_dconst0 (X : Stand p l e R s m args below meth c T locs cells slots) (hx : p.tables.exec = Jvm.exec) (hby : c.code = bytes) (z : UInt64) (hd : decode bytes pc = .ok (.dconst 0, 1)) (hz : FP.dconst0 = z) (hp : pc + 1 = pc')
    (k : own_Got p e below P T (mkF m pc' ls (.double z :: st))) : own_Got p e below P T (mkF m pc ls (st)) := by
  subst hp; exact own_go (fun _ q => XS.dconst0 X.here hx rfl (hb hby hd) hz q) k
theorem g_dadd (X : Stand p l e R s m args below meth c T locs cells slots) (hx : p.tables.exec = Jvm.exec) (hby : c.code = bytes) {x y : UInt64} (hd : decode bytes pc = .ok (.dadd, 1)) (hn : Jvm.Free.Fl.NoNaN64 (FP.dadd x y)) (hp : pc + 1 = pc')
    (k : own_Got p e below P T (mkF m pc' ls (.double (FP.dadd x y) :: st))) : own_Got p e below P T (mkF m pc ls (.double y :: .double x :: st)) := by
  subst hp; exact own_go (fun _ q => XS.daddS X.here hx rfl (hb hby hd) rfl hn rfl q) k
theorem g_dsub (X : Stand p l e R s m args below meth c T locs cells slots) (hx : p.tables.exec = Jvm.exec) (hby : c.code = bytes) {x y : UInt64} (hd : decode bytes pc = .ok (.dsub, 1)) (hn : Jvm.Free.Fl.NoNaN64 (FP.dsub x y)) (hp : pc + 1 = pc')
    (k : own_Got p e below P T (mkF m pc' ls (.double (FP.dsub x y) :: st))) : own_Got p e below P T (mkF m pc ls (.double y :: .double x :: st)) := by
  subst hp; exact own_go (fun _ q => XS.dsubS X.here hx rfl (hb hby hd) rfl hn rfl q) k
theorem g_dmul (X : Stand p l e R s m args below meth c T locs cells slots) (hx : p.tables.exec = Jvm.exec) (hby : c.code = bytes) {x y : UInt64} (hd : decode bytes pc = .ok (.dmul, 1)) (hn : Jvm.Free.Fl.NoNaN64 (FP.dmul x y)) (hp : pc + 1 = pc')
    (k : own_Got p e below P T (mkF m pc' ls (.double (FP.dmul x y) :: st))) : own_Got p e below P T (mkF m pc ls (.double y :: .double x :: st)) := by
  subst hp; exact own_go (fun _ q => XS.dmulS X.here hx rfl (hb hby hd) rfl hn rfl q) k
theorem g_ddiv (X : Stand p l e R s m args below meth c T locs cells slots) (hx : p.tables.exec = Jvm.exec) (hby : c.code = bytes) {x y : UInt64} (hd : decode bytes pc = .ok (.ddiv, 1)) (hn : Jvm.Free.Fl.NoNaN64 (FP.ddiv x y)) (hp : pc + 1 = pc')
    (k : own_Got p e below P T (mkF m pc' ls (.double (FP.ddiv x y) :: st))) : own_Got p e below P T (mkF m pc ls (.double y :: .double x :: st)) := by
  subst hp; exact own_go (fun _ q => XS.ddivS X.here hx rfl (hb hby hd) rfl hn rfl q) k
theorem own_narR {t : FieldType} {w : Value} (ht : t.isReference = true) (hw : w.isRef = true) : narrow t w = w := by rcases ref_cases hw with rfl | ⟨a, rfl⟩ <;> cases t <;> first | rfl | (cases ht)
theorem own_fitR {t : FieldType} {w : Value} (ht : t.isReference = true) (hw : w.isRef = true) : fits t w = true := by rcases ref_cases hw with rfl | ⟨a, rfl⟩ <;> cases t <;> first | rfl | (cases ht)
theorem own_nb (x : Int32) : nar .byte (x.toInt8.toInt32) = x.toInt8.toInt32 := by
  show (x.toInt8.toInt32).toInt8.toInt32 = x.toInt8.toInt32
  simp
theorem own_nc (x : Int32) : nar .char (x.toUInt32.toUInt16.toUInt32.toInt32) = x.toUInt32.toUInt16.toUInt32.toInt32 := by
  show (x.toUInt32.toUInt16.toUInt32.toInt32).toUInt32.toUInt16.toUInt32.toInt32 = _
  have q : ∀ u : UInt16, u.toUInt32.toInt32.toUInt32.toUInt16 = u := fun u => by simp
  rw [q]
end OwnKit
theorem d_rot_0 : decode jdk_33_method_50_code 0 = .ok (.iload_n 0, 1) := by decide +kernel
theorem d_rot_1 : decode jdk_33_method_50_code 1 = .ok (.iload_n 1, 1) := by decide +kernel
theorem d_rot_2 : decode jdk_33_method_50_code 2 = .ok (.ishl, 1) := by decide +kernel
theorem d_rot_3 : decode jdk_33_method_50_code 3 = .ok (.iload_n 0, 1) := by decide +kernel
theorem d_rot_4 : decode jdk_33_method_50_code 4 = .ok (.iload_n 1, 1) := by decide +kernel
theorem d_rot_5 : decode jdk_33_method_50_code 5 = .ok (.ineg, 1) := by decide +kernel
theorem d_rot_6 : decode jdk_33_method_50_code 6 = .ok (.iushr, 1) := by decide +kernel
theorem d_rot_7 : decode jdk_33_method_50_code 7 = .ok (.ior, 1) := by decide +kernel
theorem d_rot_8 : decode jdk_33_method_50_code 8 = .ok (.ireturn, 1) := by decide +kernel
theorem pn0 : plainName "java/lang/Integer" = true := by first | (simp [plainName, overriddenIn]; done) | decide +kernel
theorem ef_rot (m : MethodId) (x0 : Int32) (x1 : Int32) : entryFrame m #[(.int x0), (.int x1)] 2 = mkF m 0 #[.val (.int x0), .val (.int x1)] [] := by first | (simp [entryFrame, mkF, argsToLocals, Value.category]; done) | rfl
def F_rot (x0 : Int32) (x1 : Int32) : Int32 := ((x0 <<< (x1 &&& 31)) ||| ((x0.toUInt32 >>> ((-x1) &&& 31).toUInt32).toInt32))
def Q_rot (Z : State) (x0 : Int32) (x1 : Int32) (h0 : Heap) (n0 : Nat) (v : Option Value) (h : Heap) (L : List Loc) : Prop := v = some (.int (F_rot x0 x1)) ∧ Fr n0 L ∧ h = h0
set_option maxRecDepth 65536 in
set_option maxHeartbeats 40000000 in
theorem rm_rot (l : Launch) (Z : State) (aT : Array Value) (hw : ∀ d ∈ tables_1, d.before aT Z = true) (ws : List Jvm.Cond) (x0 : Int32) (x1 : Int32) (h0 : Heap) (n0 : Nat) (Z0 : n0 ≤ h0.size) :
    MetFree l (⟨"java/lang/Integer", "rotateLeft", "(II)I"⟩ : MethodName) (head1 (Jvm.Cond.code (⟨"java/lang/Integer", "rotateLeft", "(II)I"⟩ : MethodName) jdk_33_method_50_code 2 (some .int) :: ws) ({ frames := 0, cells := 0, slots := 0, locals := 0 } : Room)) (fun a U => a = #[(.int x0), (.int x1)] ∧ Z.Warmed39 U.vm ∧ U.heap = h0) (fun _ _ _ _ _ => True) (fun _ U o U' => ∃ v L, o = .returned v ∧ Q_rot Z x0 x1 h0 n0 v U'.heap L ∧ FrameEnd U o U' L ({ frames := 0, cells := 0, slots := 0, locals := 0 } : Room).cells ({ frames := 0, cells := 0, slots := 0, locals := 0 } : Room).slots) := by
  refine MetFree.of_bodySF (plainFor_of_name pn0) hisR ?_
  intro p e s m args below meth c s₁ Bd hml0 hP hK
  obtain ⟨rfl, hZ, hh⟩ := hP
  have hx := Bd.exec
  have hby := Bd.bytes
  have hml : c.maxLocals = 2 := hml0
  have hown : s.vm.findClass "java/lang/Integer" = some m.cls := findClass_of_methodNamed Bd.named
  have hnm := (name_of_methodNamed Bd.named Bd.method).1
  have hlk := Bd.notSynchronized
  have hrt := Bd.returns
  have X0 : Stand p l e ({ frames := 0, cells := 0, slots := 0, locals := 0 } : Room) s m #[(.int x0), (.int x1)] below meth c s₁ [] 0 0 := Stand.of_body Bd
  have e0 : s₁.heap = h0 := by rw [← hh, Bd.state]; rfl
  have N0 := Fr.nil n0
  refine own_cast (P := own_End s (Q_rot Z x0 x1 h0 n0) ({ frames := 0, cells := 0, slots := 0, locals := 0 } : Room).cells ({ frames := 0, cells := 0, slots := 0, locals := 0 } : Room).slots) (ef_rot m x0 x1) ?_
  refine g_iloadN X0 hx hby d_rot_0 rfl (rfl : 0 + 1 = 1) ?_
  refine g_iloadN X0 hx hby d_rot_1 rfl (rfl : 1 + 1 = 2) ?_
  refine g_ishl X0 hx hby d_rot_2 (rfl : 2 + 1 = 3) ?_
  refine g_iloadN X0 hx hby d_rot_3 rfl (rfl : 3 + 1 = 4) ?_
  refine g_iloadN X0 hx hby d_rot_4 rfl (rfl : 4 + 1 = 5) ?_
  refine g_ineg X0 hx hby d_rot_5 (rfl : 5 + 1 = 6) ?_
  refine g_iushr X0 hx hby d_rot_6 (rfl : 6 + 1 = 7) ?_
  refine g_ior X0 hx hby d_rot_7 (rfl : 7 + 1 = 8) ?_
  refine own_retI X0 hx hby hlk hrt d_rot_8 (by decide) (by decide) ?_
  show Q_rot Z x0 x1 h0 n0 _ s₁.heap _
  exact ⟨rfl, N0, e0⟩
theorem d_mix_0 : decode prog_62_method_3_code 0 = .ok (.iload_n 0, 1) := by decide +kernel
theorem d_mix_1 : decode prog_62_method_3_code 1 = .ok (.ldc 22, 2) := by decide +kernel
theorem d_mix_3 : decode prog_62_method_3_code 3 = .ok (.imul, 1) := by decide +kernel
theorem d_mix_4 : decode prog_62_method_3_code 4 = .ok (.bipush 15, 2) := by decide +kernel
theorem d_mix_6 : decode prog_62_method_3_code 6 = .ok (.invokestatic 13, 3) := by decide +kernel
theorem d_mix_9 : decode prog_62_method_3_code 9 = .ok (.ldc 23, 2) := by decide +kernel
theorem d_mix_11 : decode prog_62_method_3_code 11 = .ok (.imul, 1) := by decide +kernel
theorem d_mix_12 : decode prog_62_method_3_code 12 = .ok (.ireturn, 1) := by decide +kernel
theorem pn1 : plainName "com/example/farshard/farshard/store/Murmur3" = true := by first | (simp [plainName, overriddenIn]; done) | decide +kernel
theorem pd0 : parseMethodDescriptor "(II)I" = some ⟨[.int, .int], some .int⟩ := by decide +kernel
theorem ef_mix (m : MethodId) (x0 : Int32) : entryFrame m #[(.int x0)] 1 = mkF m 0 #[.val (.int x0)] [] := by first | (simp [entryFrame, mkF, argsToLocals, Value.category]; done) | rfl
def F_mix (x0 : Int32) : Int32 := ((F_rot (x0 * (-862048943 : Int32)) (15 : Int32)) * (461845907 : Int32))
def Q_mix (Z : State) (x0 : Int32) (h0 : Heap) (n0 : Nat) (v : Option Value) (h : Heap) (L : List Loc) : Prop := v = some (.int (F_mix x0)) ∧ Fr n0 L ∧ h = h0
set_option maxRecDepth 65536 in
set_option maxHeartbeats 40000000 in
theorem rm_mix (l : Launch) (Z : State) (aT : Array Value) (hw : ∀ d ∈ tables_1, d.before aT Z = true) (ws : List Jvm.Cond) (x0 : Int32) (h0 : Heap) (n0 : Nat) (Z0 : n0 ≤ h0.size) :
    MetFree l (⟨"com/example/farshard/farshard/store/Murmur3", "mixBlock", "(I)I"⟩ : MethodName) (head1 (Jvm.Cond.code (⟨"com/example/farshard/farshard/store/Murmur3", "mixBlock", "(I)I"⟩ : MethodName) prog_62_method_3_code 1 (some .int) :: ws) ({ frames := 1, cells := 0, slots := 0, locals := 13 } : Room)) (fun a U => a = #[(.int x0)] ∧ Z.Warmed39 U.vm ∧ U.heap = h0) (fun _ _ _ _ _ => True) (fun _ U o U' => ∃ v L, o = .returned v ∧ Q_mix Z x0 h0 n0 v U'.heap L ∧ FrameEnd U o U' L ({ frames := 1, cells := 0, slots := 0, locals := 13 } : Room).cells ({ frames := 1, cells := 0, slots := 0, locals := 13 } : Room).slots) := by
  refine MetFree.of_bodySF (plainFor_of_name pn1) hisR ?_
  intro p e s m args below meth c s₁ Bd hml0 hP hK
  obtain ⟨rfl, hZ, hh⟩ := hP
  have hx := Bd.exec
  have hby := Bd.bytes
  have hml : c.maxLocals = 1 := hml0
  have hown : s.vm.findClass "com/example/farshard/farshard/store/Murmur3" = some m.cls := findClass_of_methodNamed Bd.named
  have hnm := (name_of_methodNamed Bd.named Bd.method).1
  have hlk := Bd.notSynchronized
  have hrt := Bd.returns
  have X0 : Stand p l e ({ frames := 1, cells := 0, slots := 0, locals := 13 } : Room) s m #[(.int x0)] below meth c s₁ [] 0 0 := Stand.of_body Bd
  have e0 : s₁.heap = h0 := by rw [← hh, Bd.state]; rfl
  have N0 := Fr.nil n0
  refine own_cast (P := own_End s (Q_mix Z x0 h0 n0) ({ frames := 1, cells := 0, slots := 0, locals := 13 } : Room).cells ({ frames := 1, cells := 0, slots := 0, locals := 13 } : Room).slots) (ef_mix m x0) ?_
  refine g_iloadN X0 hx hby d_mix_0 rfl (rfl : 0 + 1 = 1) ?_
  refine g_ldcI X0 hx hby hZ hown (hw _ (List.mem_of_getElem? (i := 20) rfl)) d_mix_1 (rfl : 1 + 2 = 3) ?_
  refine g_imul X0 hx hby d_mix_3 (rfl : 3 + 1 = 4) ?_
  refine g_bipush X0 hx hby (15 : Int32) d_mix_4 (by decide) (rfl : 4 + 2 = 6) ?_
  obtain ⟨_, _, ⟨T1, L1, k1, n1⟩, -, X1, ⟨Lc1, hQ1, l1, y1, z1⟩, st1⟩ := Jvm.LawKit.callS X0 hx (y := (⟨"java/lang/Integer", "rotateLeft", "(II)I"⟩ : MethodName)) hown (mvT hZ (hw _ (List.mem_of_getElem? (i := 21) rfl))) (mvT hZ (hw _ (List.mem_of_getElem? (i := 22) rfl))) (mvT hZ (hw _ (List.mem_of_getElem? (i := 23) rfl))) (mvT hZ (hw _ (List.mem_of_getElem? (i := 24) rfl))) (by decide) (backOf (W := 0) (rm_rot l Z aT hw [] (x0 * (-862048943 : Int32)) (15 : Int32) h0 n0 Z0) hZ (hw _ (List.mem_of_getElem? (i := 24) rfl)) (hw _ (List.mem_of_getElem? (i := 23) rfl)) (by decide) (by decide)) (g := (mkF m 6 #[.val (.int x0)] [(.int (15 : Int32)), (.int (x0 * (-862048943 : Int32)))])) rfl (by rw [hml]; rfl) (argsL := [(.int (x0 * (-862048943 : Int32))), (.int (15 : Int32))]) (rest := []) (lenOf pd0 rfl) rfl (by show 2 * 0 + _ ≤ _; exact Nat.le_of_eq rfl) (hb hby d_mix_6) (fun _ _ => ⟨rfl, e0, (by decide : 0 + 0 ≤ _), (by decide : 0 + 0 ≤ _)⟩)
  dsimp only [Pt.U, Pt.locs, Pt.cells, Pt.slots] at X1 l1 y1 z1 st1 hQ1
  subst l1 y1 z1
  obtain ⟨rfl, N1q, eq1⟩ := hQ1
  have N1 := Fr.app N0 N1q
  refine own_go st1 ?_
  show own_Got p e below _ T1 (mkF m 9 #[.val (.int x0)] [(.int (F_rot (x0 * (-862048943 : Int32)) (15 : Int32)))])
  refine g_ldcI X1 hx hby hZ hown (hw _ (List.mem_of_getElem? (i := 25) rfl)) d_mix_9 (rfl : 9 + 2 = 11) ?_
  refine g_imul X1 hx hby d_mix_11 (rfl : 11 + 1 = 12) ?_
  refine own_retI X1 hx hby hlk hrt d_mix_12 (by decide) (by decide) ?_
  show Q_mix Z x0 h0 n0 _ T1.heap _
  exact ⟨rfl, N1, eq1⟩
theorem d_inv_0 : decode method_2_code 0 = .ok (.iload_n 0, 1) := by decide +kernel
theorem d_inv_1 : decode method_2_code 1 = .ok (.istore_n 1, 1) := by decide +kernel
theorem d_inv_2 : decode method_2_code 2 = .ok (.iload_n 1, 1) := by decide +kernel
theorem d_inv_3 : decode method_2_code 3 = .ok (.iconst 2, 1) := by decide +kernel
theorem d_inv_4 : decode method_2_code 4 = .ok (.iload_n 0, 1) := by decide +kernel
theorem d_inv_5 : decode method_2_code 5 = .ok (.iload_n 1, 1) := by decide +kernel
theorem d_inv_6 : decode method_2_code 6 = .ok (.imul, 1) := by decide +kernel
theorem d_inv_7 : decode method_2_code 7 = .ok (.isub, 1) := by decide +kernel
theorem d_inv_8 : decode method_2_code 8 = .ok (.imul, 1) := by decide +kernel
theorem d_inv_9 : decode method_2_code 9 = .ok (.istore_n 1, 1) := by decide +kernel
theorem d_inv_10 : decode method_2_code 10 = .ok (.iload_n 1, 1) := by decide +kernel
theorem d_inv_11 : decode method_2_code 11 = .ok (.iconst 2, 1) := by decide +kernel
theorem d_inv_12 : decode method_2_code 12 = .ok (.iload_n 0, 1) := by decide +kernel
theorem d_inv_13 : decode method_2_code 13 = .ok (.iload_n 1, 1) := by decide +kernel
theorem d_inv_14 : decode method_2_code 14 = .ok (.imul, 1) := by decide +kernel
theorem d_inv_15 : decode method_2_code 15 = .ok (.isub, 1) := by decide +kernel
theorem d_inv_16 : decode method_2_code 16 = .ok (.imul, 1) := by decide +kernel
theorem d_inv_17 : decode method_2_code 17 = .ok (.istore_n 1, 1) := by decide +kernel
theorem d_inv_18 : decode method_2_code 18 = .ok (.iload_n 1, 1) := by decide +kernel
theorem d_inv_19 : decode method_2_code 19 = .ok (.iconst 2, 1) := by decide +kernel
theorem d_inv_20 : decode method_2_code 20 = .ok (.iload_n 0, 1) := by decide +kernel
theorem d_inv_21 : decode method_2_code 21 = .ok (.iload_n 1, 1) := by decide +kernel
theorem d_inv_22 : decode method_2_code 22 = .ok (.imul, 1) := by decide +kernel
theorem d_inv_23 : decode method_2_code 23 = .ok (.isub, 1) := by decide +kernel
theorem d_inv_24 : decode method_2_code 24 = .ok (.imul, 1) := by decide +kernel
theorem d_inv_25 : decode method_2_code 25 = .ok (.istore_n 1, 1) := by decide +kernel
theorem d_inv_26 : decode method_2_code 26 = .ok (.iload_n 1, 1) := by decide +kernel
theorem d_inv_27 : decode method_2_code 27 = .ok (.iconst 2, 1) := by decide +kernel
theorem d_inv_28 : decode method_2_code 28 = .ok (.iload_n 0, 1) := by decide +kernel
theorem d_inv_29 : decode method_2_code 29 = .ok (.iload_n 1, 1) := by decide +kernel
theorem d_inv_30 : decode method_2_code 30 = .ok (.imul, 1) := by decide +kernel
theorem d_inv_31 : decode method_2_code 31 = .ok (.isub, 1) := by decide +kernel
theorem d_inv_32 : decode method_2_code 32 = .ok (.imul, 1) := by decide +kernel
theorem d_inv_33 : decode method_2_code 33 = .ok (.istore_n 1, 1) := by decide +kernel
theorem d_inv_34 : decode method_2_code 34 = .ok (.iload_n 1, 1) := by decide +kernel
theorem d_inv_35 : decode method_2_code 35 = .ok (.ireturn, 1) := by decide +kernel
theorem pn2 : plainName "com/example/farshard/farshard/store/Murmur3Hash32PinLaw" = true := by first | (simp [plainName, overriddenIn]; done) | decide +kernel
theorem ef_inv (m : MethodId) (x0 : Int32) : entryFrame m #[(.int x0)] 2 = mkF m 0 #[.val (.int x0), .unset] [] := by first | (simp [entryFrame, mkF, argsToLocals, Value.category]; done) | rfl
def F_inv (x0 : Int32) : Int32 := ((((x0 * ((2 : Int32) - (x0 * x0))) * ((2 : Int32) - (x0 * (x0 * ((2 : Int32) - (x0 * x0)))))) * ((2 : Int32) - (x0 * ((x0 * ((2 : Int32) - (x0 * x0))) * ((2 : Int32) - (x0 * (x0 * ((2 : Int32) - (x0 * x0))))))))) * ((2 : Int32) - (x0 * (((x0 * ((2 : Int32) - (x0 * x0))) * ((2 : Int32) - (x0 * (x0 * ((2 : Int32) - (x0 * x0)))))) * ((2 : Int32) - (x0 * ((x0 * ((2 : Int32) - (x0 * x0))) * ((2 : Int32) - (x0 * (x0 * ((2 : Int32) - (x0 * x0))))))))))))
def Q_inv (Z : State) (x0 : Int32) (h0 : Heap) (n0 : Nat) (v : Option Value) (h : Heap) (L : List Loc) : Prop := v = some (.int (F_inv x0)) ∧ Fr n0 L ∧ h = h0
set_option maxRecDepth 65536 in
set_option maxHeartbeats 40000000 in
theorem rm_inv (l : Launch) (Z : State) (aT : Array Value) (hw : ∀ d ∈ tables_1, d.before aT Z = true) (ws : List Jvm.Cond) (x0 : Int32) (h0 : Heap) (n0 : Nat) (Z0 : n0 ≤ h0.size) :
    MetFree l (⟨"com/example/farshard/farshard/store/Murmur3Hash32PinLaw", "inv", "(I)I"⟩ : MethodName) (head1 (Jvm.Cond.code (⟨"com/example/farshard/farshard/store/Murmur3Hash32PinLaw", "inv", "(I)I"⟩ : MethodName) method_2_code 2 (some .int) :: ws) ({ frames := 0, cells := 0, slots := 0, locals := 0 } : Room)) (fun a U => a = #[(.int x0)] ∧ Z.Warmed39 U.vm ∧ U.heap = h0) (fun _ _ _ _ _ => True) (fun _ U o U' => ∃ v L, o = .returned v ∧ Q_inv Z x0 h0 n0 v U'.heap L ∧ FrameEnd U o U' L ({ frames := 0, cells := 0, slots := 0, locals := 0 } : Room).cells ({ frames := 0, cells := 0, slots := 0, locals := 0 } : Room).slots) := by
  refine MetFree.of_bodySF (plainFor_of_name pn2) hisR ?_
  intro p e s m args below meth c s₁ Bd hml0 hP hK
  obtain ⟨rfl, hZ, hh⟩ := hP
  have hx := Bd.exec
  have hby := Bd.bytes
  have hml : c.maxLocals = 2 := hml0
  have hown : s.vm.findClass "com/example/farshard/farshard/store/Murmur3Hash32PinLaw" = some m.cls := findClass_of_methodNamed Bd.named
  have hnm := (name_of_methodNamed Bd.named Bd.method).1
  have hlk := Bd.notSynchronized
  have hrt := Bd.returns
  have X0 : Stand p l e ({ frames := 0, cells := 0, slots := 0, locals := 0 } : Room) s m #[(.int x0)] below meth c s₁ [] 0 0 := Stand.of_body Bd
  have e0 : s₁.heap = h0 := by rw [← hh, Bd.state]; rfl
  have N0 := Fr.nil n0
  refine own_cast (P := own_End s (Q_inv Z x0 h0 n0) ({ frames := 0, cells := 0, slots := 0, locals := 0 } : Room).cells ({ frames := 0, cells := 0, slots := 0, locals := 0 } : Room).slots) (ef_inv m x0) ?_
  refine g_iloadN X0 hx hby d_inv_0 rfl (rfl : 0 + 1 = 1) ?_
  refine g_istoreN X0 hx hby #[.val (.int x0), .val (.int x0)] d_inv_1 rfl (rfl : 1 + 1 = 2) ?_
  refine g_iloadN X0 hx hby d_inv_2 rfl (rfl : 2 + 1 = 3) ?_
  refine g_iconst X0 hx hby (2 : Int32) d_inv_3 (by decide) (rfl : 3 + 1 = 4) ?_
  refine g_iloadN X0 hx hby d_inv_4 rfl (rfl : 4 + 1 = 5) ?_
  refine g_iloadN X0 hx hby d_inv_5 rfl (rfl : 5 + 1 = 6) ?_
  refine g_imul X0 hx hby d_inv_6 (rfl : 6 + 1 = 7) ?_
  refine g_isub X0 hx hby d_inv_7 (rfl : 7 + 1 = 8) ?_
  refine g_imul X0 hx hby d_inv_8 (rfl : 8 + 1 = 9) ?_
  refine g_istoreN X0 hx hby #[.val (.int x0), .val (.int (x0 * ((2 : Int32) - (x0 * x0))))] d_inv_9 rfl (rfl : 9 + 1 = 10) ?_
  refine g_iloadN X0 hx hby d_inv_10 rfl (rfl : 10 + 1 = 11) ?_
  refine g_iconst X0 hx hby (2 : Int32) d_inv_11 (by decide) (rfl : 11 + 1 = 12) ?_
  refine g_iloadN X0 hx hby d_inv_12 rfl (rfl : 12 + 1 = 13) ?_
  refine g_iloadN X0 hx hby d_inv_13 rfl (rfl : 13 + 1 = 14) ?_
  refine g_imul X0 hx hby d_inv_14 (rfl : 14 + 1 = 15) ?_
  refine g_isub X0 hx hby d_inv_15 (rfl : 15 + 1 = 16) ?_
  refine g_imul X0 hx hby d_inv_16 (rfl : 16 + 1 = 17) ?_
  refine g_istoreN X0 hx hby #[.val (.int x0), .val (.int ((x0 * ((2 : Int32) - (x0 * x0))) * ((2 : Int32) - (x0 * (x0 * ((2 : Int32) - (x0 * x0)))))))] d_inv_17 rfl (rfl : 17 + 1 = 18) ?_
  refine g_iloadN X0 hx hby d_inv_18 rfl (rfl : 18 + 1 = 19) ?_
  refine g_iconst X0 hx hby (2 : Int32) d_inv_19 (by decide) (rfl : 19 + 1 = 20) ?_
  refine g_iloadN X0 hx hby d_inv_20 rfl (rfl : 20 + 1 = 21) ?_
  refine g_iloadN X0 hx hby d_inv_21 rfl (rfl : 21 + 1 = 22) ?_
  refine g_imul X0 hx hby d_inv_22 (rfl : 22 + 1 = 23) ?_
  refine g_isub X0 hx hby d_inv_23 (rfl : 23 + 1 = 24) ?_
  refine g_imul X0 hx hby d_inv_24 (rfl : 24 + 1 = 25) ?_
  refine g_istoreN X0 hx hby #[.val (.int x0), .val (.int (((x0 * ((2 : Int32) - (x0 * x0))) * ((2 : Int32) - (x0 * (x0 * ((2 : Int32) - (x0 * x0)))))) * ((2 : Int32) - (x0 * ((x0 * ((2 : Int32) - (x0 * x0))) * ((2 : Int32) - (x0 * (x0 * ((2 : Int32) - (x0 * x0))))))))))] d_inv_25 rfl (rfl : 25 + 1 = 26) ?_
  refine g_iloadN X0 hx hby d_inv_26 rfl (rfl : 26 + 1 = 27) ?_
  refine g_iconst X0 hx hby (2 : Int32) d_inv_27 (by decide) (rfl : 27 + 1 = 28) ?_
  refine g_iloadN X0 hx hby d_inv_28 rfl (rfl : 28 + 1 = 29) ?_
  refine g_iloadN X0 hx hby d_inv_29 rfl (rfl : 29 + 1 = 30) ?_
  refine g_imul X0 hx hby d_inv_30 (rfl : 30 + 1 = 31) ?_
  refine g_isub X0 hx hby d_inv_31 (rfl : 31 + 1 = 32) ?_
  refine g_imul X0 hx hby d_inv_32 (rfl : 32 + 1 = 33) ?_
  refine g_istoreN X0 hx hby #[.val (.int x0), .val (.int ((((x0 * ((2 : Int32) - (x0 * x0))) * ((2 : Int32) - (x0 * (x0 * ((2 : Int32) - (x0 * x0)))))) * ((2 : Int32) - (x0 * ((x0 * ((2 : Int32) - (x0 * x0))) * ((2 : Int32) - (x0 * (x0 * ((2 : Int32) - (x0 * x0))))))))) * ((2 : Int32) - (x0 * (((x0 * ((2 : Int32) - (x0 * x0))) * ((2 : Int32) - (x0 * (x0 * ((2 : Int32) - (x0 * x0)))))) * ((2 : Int32) - (x0 * ((x0 * ((2 : Int32) - (x0 * x0))) * ((2 : Int32) - (x0 * (x0 * ((2 : Int32) - (x0 * x0)))))))))))))] d_inv_33 rfl (rfl : 33 + 1 = 34) ?_
  refine g_iloadN X0 hx hby d_inv_34 rfl (rfl : 34 + 1 = 35) ?_
  refine own_retI X0 hx hby hlk hrt d_inv_35 (by decide) (by decide) ?_
  show Q_inv Z x0 h0 n0 _ s₁.heap _
  exact ⟨rfl, N0, e0⟩
theorem d_ifx_0 : decode method_3_code 0 = .ok (.iload_n 0, 1) := by decide +kernel
theorem d_ifx_1 : decode method_3_code 1 = .ok (.iload_n 0, 1) := by decide +kernel
theorem d_ifx_2 : decode method_3_code 2 = .ok (.bipush 16, 2) := by decide +kernel
theorem d_ifx_4 : decode method_3_code 4 = .ok (.iushr, 1) := by decide +kernel
theorem d_ifx_5 : decode method_3_code 5 = .ok (.ixor, 1) := by decide +kernel
theorem d_ifx_6 : decode method_3_code 6 = .ok (.istore_n 0, 1) := by decide +kernel
theorem d_ifx_7 : decode method_3_code 7 = .ok (.iload_n 0, 1) := by decide +kernel
theorem d_ifx_8 : decode method_3_code 8 = .ok (.ldc 7, 2) := by decide +kernel
theorem d_ifx_10 : decode method_3_code 10 = .ok (.invokestatic 8, 3) := by decide +kernel
theorem d_ifx_13 : decode method_3_code 13 = .ok (.imul, 1) := by decide +kernel
theorem d_ifx_14 : decode method_3_code 14 = .ok (.istore_n 0, 1) := by decide +kernel
theorem d_ifx_15 : decode method_3_code 15 = .ok (.iload_n 0, 1) := by decide +kernel
theorem d_ifx_16 : decode method_3_code 16 = .ok (.iload_n 0, 1) := by decide +kernel
theorem d_ifx_17 : decode method_3_code 17 = .ok (.bipush 13, 2) := by decide +kernel
theorem d_ifx_19 : decode method_3_code 19 = .ok (.iushr, 1) := by decide +kernel
theorem d_ifx_20 : decode method_3_code 20 = .ok (.iload_n 0, 1) := by decide +kernel
theorem d_ifx_21 : decode method_3_code 21 = .ok (.bipush 26, 2) := by decide +kernel
theorem d_ifx_23 : decode method_3_code 23 = .ok (.iushr, 1) := by decide +kernel
theorem d_ifx_24 : decode method_3_code 24 = .ok (.ixor, 1) := by decide +kernel
theorem d_ifx_25 : decode method_3_code 25 = .ok (.ixor, 1) := by decide +kernel
theorem d_ifx_26 : decode method_3_code 26 = .ok (.istore_n 0, 1) := by decide +kernel
theorem d_ifx_27 : decode method_3_code 27 = .ok (.iload_n 0, 1) := by decide +kernel
theorem d_ifx_28 : decode method_3_code 28 = .ok (.ldc 14, 2) := by decide +kernel
theorem d_ifx_30 : decode method_3_code 30 = .ok (.invokestatic 8, 3) := by decide +kernel
theorem d_ifx_33 : decode method_3_code 33 = .ok (.imul, 1) := by decide +kernel
theorem d_ifx_34 : decode method_3_code 34 = .ok (.istore_n 0, 1) := by decide +kernel
theorem d_ifx_35 : decode method_3_code 35 = .ok (.iload_n 0, 1) := by decide +kernel
theorem d_ifx_36 : decode method_3_code 36 = .ok (.iload_n 0, 1) := by decide +kernel
theorem d_ifx_37 : decode method_3_code 37 = .ok (.bipush 16, 2) := by decide +kernel
theorem d_ifx_39 : decode method_3_code 39 = .ok (.iushr, 1) := by decide +kernel
theorem d_ifx_40 : decode method_3_code 40 = .ok (.ixor, 1) := by decide +kernel
theorem d_ifx_41 : decode method_3_code 41 = .ok (.istore_n 0, 1) := by decide +kernel
theorem d_ifx_42 : decode method_3_code 42 = .ok (.iload_n 0, 1) := by decide +kernel
theorem d_ifx_43 : decode method_3_code 43 = .ok (.ireturn, 1) := by decide +kernel
theorem pd1 : parseMethodDescriptor "(I)I" = some ⟨[.int], some .int⟩ := by decide +kernel
theorem ef_ifx (m : MethodId) (x0 : Int32) : entryFrame m #[(.int x0)] 1 = mkF m 0 #[.val (.int x0)] [] := by first | (simp [entryFrame, mkF, argsToLocals, Value.category]; done) | rfl
def F_ifx (x0 : Int32) : Int32 := (((((x0 ^^^ ((x0.toUInt32 >>> ((16 : Int32) &&& 31).toUInt32).toInt32)) * (F_inv (-1028477387 : Int32))) ^^^ (((((x0 ^^^ ((x0.toUInt32 >>> ((16 : Int32) &&& 31).toUInt32).toInt32)) * (F_inv (-1028477387 : Int32))).toUInt32 >>> ((13 : Int32) &&& 31).toUInt32).toInt32) ^^^ ((((x0 ^^^ ((x0.toUInt32 >>> ((16 : Int32) &&& 31).toUInt32).toInt32)) * (F_inv (-1028477387 : Int32))).toUInt32 >>> ((26 : Int32) &&& 31).toUInt32).toInt32))) * (F_inv (-2048144789 : Int32))) ^^^ ((((((x0 ^^^ ((x0.toUInt32 >>> ((16 : Int32) &&& 31).toUInt32).toInt32)) * (F_inv (-1028477387 : Int32))) ^^^ (((((x0 ^^^ ((x0.toUInt32 >>> ((16 : Int32) &&& 31).toUInt32).toInt32)) * (F_inv (-1028477387 : Int32))).toUInt32 >>> ((13 : Int32) &&& 31).toUInt32).toInt32) ^^^ ((((x0 ^^^ ((x0.toUInt32 >>> ((16 : Int32) &&& 31).toUInt32).toInt32)) * (F_inv (-1028477387 : Int32))).toUInt32 >>> ((26 : Int32) &&& 31).toUInt32).toInt32))) * (F_inv (-2048144789 : Int32))).toUInt32 >>> ((16 : Int32) &&& 31).toUInt32).toInt32))
def Q_ifx (Z : State) (x0 : Int32) (h0 : Heap) (n0 : Nat) (v : Option Value) (h : Heap) (L : List Loc) : Prop := v = some (.int (F_ifx x0)) ∧ Fr n0 L ∧ h = h0
set_option maxRecDepth 65536 in
set_option maxHeartbeats 40000000 in
theorem rm_ifx (l : Launch) (Z : State) (aT : Array Value) (hw : ∀ d ∈ tables_1, d.before aT Z = true) (ws : List Jvm.Cond) (x0 : Int32) (h0 : Heap) (n0 : Nat) (Z0 : n0 ≤ h0.size) :
    MetFree l (⟨"com/example/farshard/farshard/store/Murmur3Hash32PinLaw", "invFmix", "(I)I"⟩ : MethodName) (head1 (Jvm.Cond.code (⟨"com/example/farshard/farshard/store/Murmur3Hash32PinLaw", "invFmix", "(I)I"⟩ : MethodName) method_3_code 1 (some .int) :: ws) ({ frames := 1, cells := 0, slots := 0, locals := 14 } : Room)) (fun a U => a = #[(.int x0)] ∧ Z.Warmed39 U.vm ∧ U.heap = h0) (fun _ _ _ _ _ => True) (fun _ U o U' => ∃ v L, o = .returned v ∧ Q_ifx Z x0 h0 n0 v U'.heap L ∧ FrameEnd U o U' L ({ frames := 1, cells := 0, slots := 0, locals := 14 } : Room).cells ({ frames := 1, cells := 0, slots := 0, locals := 14 } : Room).slots) := by
  refine MetFree.of_bodySF (plainFor_of_name pn2) hisR ?_
  intro p e s m args below meth c s₁ Bd hml0 hP hK
  obtain ⟨rfl, hZ, hh⟩ := hP
  have hx := Bd.exec
  have hby := Bd.bytes
  have hml : c.maxLocals = 1 := hml0
  have hown : s.vm.findClass "com/example/farshard/farshard/store/Murmur3Hash32PinLaw" = some m.cls := findClass_of_methodNamed Bd.named
  have hnm := (name_of_methodNamed Bd.named Bd.method).1
  have hlk := Bd.notSynchronized
  have hrt := Bd.returns
  have X0 : Stand p l e ({ frames := 1, cells := 0, slots := 0, locals := 14 } : Room) s m #[(.int x0)] below meth c s₁ [] 0 0 := Stand.of_body Bd
  have e0 : s₁.heap = h0 := by rw [← hh, Bd.state]; rfl
  have N0 := Fr.nil n0
  refine own_cast (P := own_End s (Q_ifx Z x0 h0 n0) ({ frames := 1, cells := 0, slots := 0, locals := 14 } : Room).cells ({ frames := 1, cells := 0, slots := 0, locals := 14 } : Room).slots) (ef_ifx m x0) ?_
  refine g_iloadN X0 hx hby d_ifx_0 rfl (rfl : 0 + 1 = 1) ?_
  refine g_iloadN X0 hx hby d_ifx_1 rfl (rfl : 1 + 1 = 2) ?_
  refine g_bipush X0 hx hby (16 : Int32) d_ifx_2 (by decide) (rfl : 2 + 2 = 4) ?_
  refine g_iushr X0 hx hby d_ifx_4 (rfl : 4 + 1 = 5) ?_
  refine g_ixor X0 hx hby d_ifx_5 (rfl : 5 + 1 = 6) ?_
  refine g_istoreN X0 hx hby #[.val (.int (x0 ^^^ ((x0.toUInt32 >>> ((16 : Int32) &&& 31).toUInt32).toInt32)))] d_ifx_6 rfl (rfl : 6 + 1 = 7) ?_
  refine g_iloadN X0 hx hby d_ifx_7 rfl (rfl : 7 + 1 = 8) ?_
  refine g_ldcI X0 hx hby hZ hown (hw _ (List.mem_of_getElem? (i := 12) rfl)) d_ifx_8 (rfl : 8 + 2 = 10) ?_
  obtain ⟨_, _, ⟨T2, L2, k2, n2⟩, -, X2, ⟨Lc2, hQ2, l2, y2, z2⟩, st2⟩ := Jvm.LawKit.callS X0 hx (y := (⟨"com/example/farshard/farshard/store/Murmur3Hash32PinLaw", "inv", "(I)I"⟩ : MethodName)) hown (mvT hZ (hw _ (List.mem_of_getElem? (i := 13) rfl))) (mvT hZ (hw _ (List.mem_of_getElem? (i := 14) rfl))) (mvT hZ (hw _ (List.mem_of_getElem? (i := 10) rfl))) (mvT hZ (hw _ (List.mem_of_getElem? (i := 15) rfl))) (by decide) (backOf (W := 1) (rm_inv l Z aT hw [] (-1028477387 : Int32) h0 n0 Z0) hZ (hw _ (List.mem_of_getElem? (i := 15) rfl)) (hw _ (List.mem_of_getElem? (i := 10) rfl)) (by decide) (by decide)) (g := (mkF m 10 #[.val (.int (x0 ^^^ ((x0.toUInt32 >>> ((16 : Int32) &&& 31).toUInt32).toInt32)))] [(.int (-1028477387 : Int32)), (.int (x0 ^^^ ((x0.toUInt32 >>> ((16 : Int32) &&& 31).toUInt32).toInt32)))])) rfl (by rw [hml]; rfl) (argsL := [(.int (-1028477387 : Int32))]) (rest := [(.int (x0 ^^^ ((x0.toUInt32 >>> ((16 : Int32) &&& 31).toUInt32).toInt32)))]) (lenOf pd1 rfl) rfl (by show 2 * 0 + _ ≤ _; exact Nat.le_of_eq rfl) (hb hby d_ifx_10) (fun _ _ => ⟨rfl, e0, (by decide : 0 + 0 ≤ _), (by decide : 0 + 0 ≤ _)⟩)
  dsimp only [Pt.U, Pt.locs, Pt.cells, Pt.slots] at X2 l2 y2 z2 st2 hQ2
  subst l2 y2 z2
  obtain ⟨rfl, N2q, eq2⟩ := hQ2
  have N2 := Fr.app N0 N2q
  refine own_go st2 ?_
  show own_Got p e below _ T2 (mkF m 13 #[.val (.int (x0 ^^^ ((x0.toUInt32 >>> ((16 : Int32) &&& 31).toUInt32).toInt32)))] [(.int (F_inv (-1028477387 : Int32))), (.int (x0 ^^^ ((x0.toUInt32 >>> ((16 : Int32) &&& 31).toUInt32).toInt32)))])
  refine g_imul X2 hx hby d_ifx_13 (rfl : 13 + 1 = 14) ?_
  refine g_istoreN X2 hx hby #[.val (.int ((x0 ^^^ ((x0.toUInt32 >>> ((16 : Int32) &&& 31).toUInt32).toInt32)) * (F_inv (-1028477387 : Int32))))] d_ifx_14 rfl (rfl : 14 + 1 = 15) ?_
  refine g_iloadN X2 hx hby d_ifx_15 rfl (rfl : 15 + 1 = 16) ?_
  refine g_iloadN X2 hx hby d_ifx_16 rfl (rfl : 16 + 1 = 17) ?_
  refine g_bipush X2 hx hby (13 : Int32) d_ifx_17 (by decide) (rfl : 17 + 2 = 19) ?_
  refine g_iushr X2 hx hby d_ifx_19 (rfl : 19 + 1 = 20) ?_
  refine g_iloadN X2 hx hby d_ifx_20 rfl (rfl : 20 + 1 = 21) ?_
  refine g_bipush X2 hx hby (26 : Int32) d_ifx_21 (by decide) (rfl : 21 + 2 = 23) ?_
  refine g_iushr X2 hx hby d_ifx_23 (rfl : 23 + 1 = 24) ?_
  refine g_ixor X2 hx hby d_ifx_24 (rfl : 24 + 1 = 25) ?_
  refine g_ixor X2 hx hby d_ifx_25 (rfl : 25 + 1 = 26) ?_
  refine g_istoreN X2 hx hby #[.val (.int (((x0 ^^^ ((x0.toUInt32 >>> ((16 : Int32) &&& 31).toUInt32).toInt32)) * (F_inv (-1028477387 : Int32))) ^^^ (((((x0 ^^^ ((x0.toUInt32 >>> ((16 : Int32) &&& 31).toUInt32).toInt32)) * (F_inv (-1028477387 : Int32))).toUInt32 >>> ((13 : Int32) &&& 31).toUInt32).toInt32) ^^^ ((((x0 ^^^ ((x0.toUInt32 >>> ((16 : Int32) &&& 31).toUInt32).toInt32)) * (F_inv (-1028477387 : Int32))).toUInt32 >>> ((26 : Int32) &&& 31).toUInt32).toInt32))))] d_ifx_26 rfl (rfl : 26 + 1 = 27) ?_
  refine g_iloadN X2 hx hby d_ifx_27 rfl (rfl : 27 + 1 = 28) ?_
  refine g_ldcI X2 hx hby hZ hown (hw _ (List.mem_of_getElem? (i := 16) rfl)) d_ifx_28 (rfl : 28 + 2 = 30) ?_
  obtain ⟨_, _, ⟨T3, L3, k3, n3⟩, -, X3, ⟨Lc3, hQ3, l3, y3, z3⟩, st3⟩ := Jvm.LawKit.callS X2 hx (y := (⟨"com/example/farshard/farshard/store/Murmur3Hash32PinLaw", "inv", "(I)I"⟩ : MethodName)) hown (mvT hZ (hw _ (List.mem_of_getElem? (i := 13) rfl))) (mvT hZ (hw _ (List.mem_of_getElem? (i := 14) rfl))) (mvT hZ (hw _ (List.mem_of_getElem? (i := 10) rfl))) (mvT hZ (hw _ (List.mem_of_getElem? (i := 15) rfl))) (by decide) (backOf (W := 1) (rm_inv l Z aT hw [] (-2048144789 : Int32) h0 n0 Z0) hZ (hw _ (List.mem_of_getElem? (i := 15) rfl)) (hw _ (List.mem_of_getElem? (i := 10) rfl)) (by decide) (by decide)) (g := (mkF m 30 #[.val (.int (((x0 ^^^ ((x0.toUInt32 >>> ((16 : Int32) &&& 31).toUInt32).toInt32)) * (F_inv (-1028477387 : Int32))) ^^^ (((((x0 ^^^ ((x0.toUInt32 >>> ((16 : Int32) &&& 31).toUInt32).toInt32)) * (F_inv (-1028477387 : Int32))).toUInt32 >>> ((13 : Int32) &&& 31).toUInt32).toInt32) ^^^ ((((x0 ^^^ ((x0.toUInt32 >>> ((16 : Int32) &&& 31).toUInt32).toInt32)) * (F_inv (-1028477387 : Int32))).toUInt32 >>> ((26 : Int32) &&& 31).toUInt32).toInt32))))] [(.int (-2048144789 : Int32)), (.int (((x0 ^^^ ((x0.toUInt32 >>> ((16 : Int32) &&& 31).toUInt32).toInt32)) * (F_inv (-1028477387 : Int32))) ^^^ (((((x0 ^^^ ((x0.toUInt32 >>> ((16 : Int32) &&& 31).toUInt32).toInt32)) * (F_inv (-1028477387 : Int32))).toUInt32 >>> ((13 : Int32) &&& 31).toUInt32).toInt32) ^^^ ((((x0 ^^^ ((x0.toUInt32 >>> ((16 : Int32) &&& 31).toUInt32).toInt32)) * (F_inv (-1028477387 : Int32))).toUInt32 >>> ((26 : Int32) &&& 31).toUInt32).toInt32))))])) rfl (by rw [hml]; rfl) (argsL := [(.int (-2048144789 : Int32))]) (rest := [(.int (((x0 ^^^ ((x0.toUInt32 >>> ((16 : Int32) &&& 31).toUInt32).toInt32)) * (F_inv (-1028477387 : Int32))) ^^^ (((((x0 ^^^ ((x0.toUInt32 >>> ((16 : Int32) &&& 31).toUInt32).toInt32)) * (F_inv (-1028477387 : Int32))).toUInt32 >>> ((13 : Int32) &&& 31).toUInt32).toInt32) ^^^ ((((x0 ^^^ ((x0.toUInt32 >>> ((16 : Int32) &&& 31).toUInt32).toInt32)) * (F_inv (-1028477387 : Int32))).toUInt32 >>> ((26 : Int32) &&& 31).toUInt32).toInt32))))]) (lenOf pd1 rfl) rfl (by show 2 * 0 + _ ≤ _; exact Nat.le_of_eq rfl) (hb hby d_ifx_30) (fun _ _ => ⟨rfl, eq2, (by decide : 0 + 0 ≤ _), (by decide : 0 + 0 ≤ _)⟩)
  dsimp only [Pt.U, Pt.locs, Pt.cells, Pt.slots] at X3 l3 y3 z3 st3 hQ3
  subst l3 y3 z3
  obtain ⟨rfl, N3q, eq3⟩ := hQ3
  have N3 := Fr.app N2 N3q
  refine own_go st3 ?_
  show own_Got p e below _ T3 (mkF m 33 #[.val (.int (((x0 ^^^ ((x0.toUInt32 >>> ((16 : Int32) &&& 31).toUInt32).toInt32)) * (F_inv (-1028477387 : Int32))) ^^^ (((((x0 ^^^ ((x0.toUInt32 >>> ((16 : Int32) &&& 31).toUInt32).toInt32)) * (F_inv (-1028477387 : Int32))).toUInt32 >>> ((13 : Int32) &&& 31).toUInt32).toInt32) ^^^ ((((x0 ^^^ ((x0.toUInt32 >>> ((16 : Int32) &&& 31).toUInt32).toInt32)) * (F_inv (-1028477387 : Int32))).toUInt32 >>> ((26 : Int32) &&& 31).toUInt32).toInt32))))] [(.int (F_inv (-2048144789 : Int32))), (.int (((x0 ^^^ ((x0.toUInt32 >>> ((16 : Int32) &&& 31).toUInt32).toInt32)) * (F_inv (-1028477387 : Int32))) ^^^ (((((x0 ^^^ ((x0.toUInt32 >>> ((16 : Int32) &&& 31).toUInt32).toInt32)) * (F_inv (-1028477387 : Int32))).toUInt32 >>> ((13 : Int32) &&& 31).toUInt32).toInt32) ^^^ ((((x0 ^^^ ((x0.toUInt32 >>> ((16 : Int32) &&& 31).toUInt32).toInt32)) * (F_inv (-1028477387 : Int32))).toUInt32 >>> ((26 : Int32) &&& 31).toUInt32).toInt32))))])
  refine g_imul X3 hx hby d_ifx_33 (rfl : 33 + 1 = 34) ?_
  refine g_istoreN X3 hx hby #[.val (.int ((((x0 ^^^ ((x0.toUInt32 >>> ((16 : Int32) &&& 31).toUInt32).toInt32)) * (F_inv (-1028477387 : Int32))) ^^^ (((((x0 ^^^ ((x0.toUInt32 >>> ((16 : Int32) &&& 31).toUInt32).toInt32)) * (F_inv (-1028477387 : Int32))).toUInt32 >>> ((13 : Int32) &&& 31).toUInt32).toInt32) ^^^ ((((x0 ^^^ ((x0.toUInt32 >>> ((16 : Int32) &&& 31).toUInt32).toInt32)) * (F_inv (-1028477387 : Int32))).toUInt32 >>> ((26 : Int32) &&& 31).toUInt32).toInt32))) * (F_inv (-2048144789 : Int32))))] d_ifx_34 rfl (rfl : 34 + 1 = 35) ?_
  refine g_iloadN X3 hx hby d_ifx_35 rfl (rfl : 35 + 1 = 36) ?_
  refine g_iloadN X3 hx hby d_ifx_36 rfl (rfl : 36 + 1 = 37) ?_
  refine g_bipush X3 hx hby (16 : Int32) d_ifx_37 (by decide) (rfl : 37 + 2 = 39) ?_
  refine g_iushr X3 hx hby d_ifx_39 (rfl : 39 + 1 = 40) ?_
  refine g_ixor X3 hx hby d_ifx_40 (rfl : 40 + 1 = 41) ?_
  refine g_istoreN X3 hx hby #[.val (.int (((((x0 ^^^ ((x0.toUInt32 >>> ((16 : Int32) &&& 31).toUInt32).toInt32)) * (F_inv (-1028477387 : Int32))) ^^^ (((((x0 ^^^ ((x0.toUInt32 >>> ((16 : Int32) &&& 31).toUInt32).toInt32)) * (F_inv (-1028477387 : Int32))).toUInt32 >>> ((13 : Int32) &&& 31).toUInt32).toInt32) ^^^ ((((x0 ^^^ ((x0.toUInt32 >>> ((16 : Int32) &&& 31).toUInt32).toInt32)) * (F_inv (-1028477387 : Int32))).toUInt32 >>> ((26 : Int32) &&& 31).toUInt32).toInt32))) * (F_inv (-2048144789 : Int32))) ^^^ ((((((x0 ^^^ ((x0.toUInt32 >>> ((16 : Int32) &&& 31).toUInt32).toInt32)) * (F_inv (-1028477387 : Int32))) ^^^ (((((x0 ^^^ ((x0.toUInt32 >>> ((16 : Int32) &&& 31).toUInt32).toInt32)) * (F_inv (-1028477387 : Int32))).toUInt32 >>> ((13 : Int32) &&& 31).toUInt32).toInt32) ^^^ ((((x0 ^^^ ((x0.toUInt32 >>> ((16 : Int32) &&& 31).toUInt32).toInt32)) * (F_inv (-1028477387 : Int32))).toUInt32 >>> ((26 : Int32) &&& 31).toUInt32).toInt32))) * (F_inv (-2048144789 : Int32))).toUInt32 >>> ((16 : Int32) &&& 31).toUInt32).toInt32)))] d_ifx_41 rfl (rfl : 41 + 1 = 42) ?_
  refine g_iloadN X3 hx hby d_ifx_42 rfl (rfl : 42 + 1 = 43) ?_
  refine own_retI X3 hx hby hlk hrt d_ifx_43 (by decide) (by decide) ?_
  show Q_ifx Z x0 h0 n0 _ T3.heap _
  exact ⟨rfl, N3, eq3⟩
theorem d_imx_0 : decode method_4_code 0 = .ok (.iload_n 0, 1) := by decide +kernel
theorem d_imx_1 : decode method_4_code 1 = .ok (.ldc 15, 2) := by decide +kernel
theorem d_imx_3 : decode method_4_code 3 = .ok (.invokestatic 8, 3) := by decide +kernel
theorem d_imx_6 : decode method_4_code 6 = .ok (.imul, 1) := by decide +kernel
theorem d_imx_7 : decode method_4_code 7 = .ok (.istore_n 1, 1) := by decide +kernel
theorem d_imx_8 : decode method_4_code 8 = .ok (.iload_n 1, 1) := by decide +kernel
theorem d_imx_9 : decode method_4_code 9 = .ok (.bipush 15, 2) := by decide +kernel
theorem d_imx_11 : decode method_4_code 11 = .ok (.iushr, 1) := by decide +kernel
theorem d_imx_12 : decode method_4_code 12 = .ok (.iload_n 1, 1) := by decide +kernel
theorem d_imx_13 : decode method_4_code 13 = .ok (.bipush 17, 2) := by decide +kernel
theorem d_imx_15 : decode method_4_code 15 = .ok (.ishl, 1) := by decide +kernel
theorem d_imx_16 : decode method_4_code 16 = .ok (.ior, 1) := by decide +kernel
theorem d_imx_17 : decode method_4_code 17 = .ok (.istore_n 1, 1) := by decide +kernel
theorem d_imx_18 : decode method_4_code 18 = .ok (.iload_n 1, 1) := by decide +kernel
theorem d_imx_19 : decode method_4_code 19 = .ok (.ldc 16, 2) := by decide +kernel
theorem d_imx_21 : decode method_4_code 21 = .ok (.invokestatic 8, 3) := by decide +kernel
theorem d_imx_24 : decode method_4_code 24 = .ok (.imul, 1) := by decide +kernel
theorem d_imx_25 : decode method_4_code 25 = .ok (.ireturn, 1) := by decide +kernel
theorem ef_imx (m : MethodId) (x0 : Int32) : entryFrame m #[(.int x0)] 2 = mkF m 0 #[.val (.int x0), .unset] [] := by first | (simp [entryFrame, mkF, argsToLocals, Value.category]; done) | rfl
def F_imx (x0 : Int32) : Int32 := (((((x0 * (F_inv (461845907 : Int32))).toUInt32 >>> ((15 : Int32) &&& 31).toUInt32).toInt32) ||| ((x0 * (F_inv (461845907 : Int32))) <<< ((17 : Int32) &&& 31))) * (F_inv (-862048943 : Int32)))
def Q_imx (Z : State) (x0 : Int32) (h0 : Heap) (n0 : Nat) (v : Option Value) (h : Heap) (L : List Loc) : Prop := v = some (.int (F_imx x0)) ∧ Fr n0 L ∧ h = h0
set_option maxRecDepth 65536 in
set_option maxHeartbeats 40000000 in
theorem rm_imx (l : Launch) (Z : State) (aT : Array Value) (hw : ∀ d ∈ tables_1, d.before aT Z = true) (ws : List Jvm.Cond) (x0 : Int32) (h0 : Heap) (n0 : Nat) (Z0 : n0 ≤ h0.size) :
    MetFree l (⟨"com/example/farshard/farshard/store/Murmur3Hash32PinLaw", "invMix", "(I)I"⟩ : MethodName) (head1 (Jvm.Cond.code (⟨"com/example/farshard/farshard/store/Murmur3Hash32PinLaw", "invMix", "(I)I"⟩ : MethodName) method_4_code 2 (some .int) :: ws) ({ frames := 1, cells := 0, slots := 0, locals := 14 } : Room)) (fun a U => a = #[(.int x0)] ∧ Z.Warmed39 U.vm ∧ U.heap = h0) (fun _ _ _ _ _ => True) (fun _ U o U' => ∃ v L, o = .returned v ∧ Q_imx Z x0 h0 n0 v U'.heap L ∧ FrameEnd U o U' L ({ frames := 1, cells := 0, slots := 0, locals := 14 } : Room).cells ({ frames := 1, cells := 0, slots := 0, locals := 14 } : Room).slots) := by
  refine MetFree.of_bodySF (plainFor_of_name pn2) hisR ?_
  intro p e s m args below meth c s₁ Bd hml0 hP hK
  obtain ⟨rfl, hZ, hh⟩ := hP
  have hx := Bd.exec
  have hby := Bd.bytes
  have hml : c.maxLocals = 2 := hml0
  have hown : s.vm.findClass "com/example/farshard/farshard/store/Murmur3Hash32PinLaw" = some m.cls := findClass_of_methodNamed Bd.named
  have hnm := (name_of_methodNamed Bd.named Bd.method).1
  have hlk := Bd.notSynchronized
  have hrt := Bd.returns
  have X0 : Stand p l e ({ frames := 1, cells := 0, slots := 0, locals := 14 } : Room) s m #[(.int x0)] below meth c s₁ [] 0 0 := Stand.of_body Bd
  have e0 : s₁.heap = h0 := by rw [← hh, Bd.state]; rfl
  have N0 := Fr.nil n0
  refine own_cast (P := own_End s (Q_imx Z x0 h0 n0) ({ frames := 1, cells := 0, slots := 0, locals := 14 } : Room).cells ({ frames := 1, cells := 0, slots := 0, locals := 14 } : Room).slots) (ef_imx m x0) ?_
  refine g_iloadN X0 hx hby d_imx_0 rfl (rfl : 0 + 1 = 1) ?_
  refine g_ldcI X0 hx hby hZ hown (hw _ (List.mem_of_getElem? (i := 29) rfl)) d_imx_1 (rfl : 1 + 2 = 3) ?_
  obtain ⟨_, _, ⟨T4, L4, k4, n4⟩, -, X4, ⟨Lc4, hQ4, l4, y4, z4⟩, st4⟩ := Jvm.LawKit.callS X0 hx (y := (⟨"com/example/farshard/farshard/store/Murmur3Hash32PinLaw", "inv", "(I)I"⟩ : MethodName)) hown (mvT hZ (hw _ (List.mem_of_getElem? (i := 13) rfl))) (mvT hZ (hw _ (List.mem_of_getElem? (i := 14) rfl))) (mvT hZ (hw _ (List.mem_of_getElem? (i := 10) rfl))) (mvT hZ (hw _ (List.mem_of_getElem? (i := 15) rfl))) (by decide) (backOf (W := 1) (rm_inv l Z aT hw [] (461845907 : Int32) h0 n0 Z0) hZ (hw _ (List.mem_of_getElem? (i := 15) rfl)) (hw _ (List.mem_of_getElem? (i := 10) rfl)) (by decide) (by decide)) (g := (mkF m 3 #[.val (.int x0), .unset] [(.int (461845907 : Int32)), (.int x0)])) rfl (by rw [hml]; rfl) (argsL := [(.int (461845907 : Int32))]) (rest := [(.int x0)]) (lenOf pd1 rfl) rfl (by show 2 * 0 + _ ≤ _; exact Nat.le_of_eq rfl) (hb hby d_imx_3) (fun _ _ => ⟨rfl, e0, (by decide : 0 + 0 ≤ _), (by decide : 0 + 0 ≤ _)⟩)
  dsimp only [Pt.U, Pt.locs, Pt.cells, Pt.slots] at X4 l4 y4 z4 st4 hQ4
  subst l4 y4 z4
  obtain ⟨rfl, N4q, eq4⟩ := hQ4
  have N4 := Fr.app N0 N4q
  refine own_go st4 ?_
  show own_Got p e below _ T4 (mkF m 6 #[.val (.int x0), .unset] [(.int (F_inv (461845907 : Int32))), (.int x0)])
  refine g_imul X4 hx hby d_imx_6 (rfl : 6 + 1 = 7) ?_
  refine g_istoreN X4 hx hby #[.val (.int x0), .val (.int (x0 * (F_inv (461845907 : Int32))))] d_imx_7 rfl (rfl : 7 + 1 = 8) ?_
  refine g_iloadN X4 hx hby d_imx_8 rfl (rfl : 8 + 1 = 9) ?_
  refine g_bipush X4 hx hby (15 : Int32) d_imx_9 (by decide) (rfl : 9 + 2 = 11) ?_
  refine g_iushr X4 hx hby d_imx_11 (rfl : 11 + 1 = 12) ?_
  refine g_iloadN X4 hx hby d_imx_12 rfl (rfl : 12 + 1 = 13) ?_
  refine g_bipush X4 hx hby (17 : Int32) d_imx_13 (by decide) (rfl : 13 + 2 = 15) ?_
  refine g_ishl X4 hx hby d_imx_15 (rfl : 15 + 1 = 16) ?_
  refine g_ior X4 hx hby d_imx_16 (rfl : 16 + 1 = 17) ?_
  refine g_istoreN X4 hx hby #[.val (.int x0), .val (.int ((((x0 * (F_inv (461845907 : Int32))).toUInt32 >>> ((15 : Int32) &&& 31).toUInt32).toInt32) ||| ((x0 * (F_inv (461845907 : Int32))) <<< ((17 : Int32) &&& 31))))] d_imx_17 rfl (rfl : 17 + 1 = 18) ?_
  refine g_iloadN X4 hx hby d_imx_18 rfl (rfl : 18 + 1 = 19) ?_
  refine g_ldcI X4 hx hby hZ hown (hw _ (List.mem_of_getElem? (i := 30) rfl)) d_imx_19 (rfl : 19 + 2 = 21) ?_
  obtain ⟨_, _, ⟨T5, L5, k5, n5⟩, -, X5, ⟨Lc5, hQ5, l5, y5, z5⟩, st5⟩ := Jvm.LawKit.callS X4 hx (y := (⟨"com/example/farshard/farshard/store/Murmur3Hash32PinLaw", "inv", "(I)I"⟩ : MethodName)) hown (mvT hZ (hw _ (List.mem_of_getElem? (i := 13) rfl))) (mvT hZ (hw _ (List.mem_of_getElem? (i := 14) rfl))) (mvT hZ (hw _ (List.mem_of_getElem? (i := 10) rfl))) (mvT hZ (hw _ (List.mem_of_getElem? (i := 15) rfl))) (by decide) (backOf (W := 1) (rm_inv l Z aT hw [] (-862048943 : Int32) h0 n0 Z0) hZ (hw _ (List.mem_of_getElem? (i := 15) rfl)) (hw _ (List.mem_of_getElem? (i := 10) rfl)) (by decide) (by decide)) (g := (mkF m 21 #[.val (.int x0), .val (.int ((((x0 * (F_inv (461845907 : Int32))).toUInt32 >>> ((15 : Int32) &&& 31).toUInt32).toInt32) ||| ((x0 * (F_inv (461845907 : Int32))) <<< ((17 : Int32) &&& 31))))] [(.int (-862048943 : Int32)), (.int ((((x0 * (F_inv (461845907 : Int32))).toUInt32 >>> ((15 : Int32) &&& 31).toUInt32).toInt32) ||| ((x0 * (F_inv (461845907 : Int32))) <<< ((17 : Int32) &&& 31))))])) rfl (by rw [hml]; rfl) (argsL := [(.int (-862048943 : Int32))]) (rest := [(.int ((((x0 * (F_inv (461845907 : Int32))).toUInt32 >>> ((15 : Int32) &&& 31).toUInt32).toInt32) ||| ((x0 * (F_inv (461845907 : Int32))) <<< ((17 : Int32) &&& 31))))]) (lenOf pd1 rfl) rfl (by show 2 * 0 + _ ≤ _; exact Nat.le_of_eq rfl) (hb hby d_imx_21) (fun _ _ => ⟨rfl, eq4, (by decide : 0 + 0 ≤ _), (by decide : 0 + 0 ≤ _)⟩)
  dsimp only [Pt.U, Pt.locs, Pt.cells, Pt.slots] at X5 l5 y5 z5 st5 hQ5
  subst l5 y5 z5
  obtain ⟨rfl, N5q, eq5⟩ := hQ5
  have N5 := Fr.app N4 N5q
  refine own_go st5 ?_
  show own_Got p e below _ T5 (mkF m 24 #[.val (.int x0), .val (.int ((((x0 * (F_inv (461845907 : Int32))).toUInt32 >>> ((15 : Int32) &&& 31).toUInt32).toInt32) ||| ((x0 * (F_inv (461845907 : Int32))) <<< ((17 : Int32) &&& 31))))] [(.int (F_inv (-862048943 : Int32))), (.int ((((x0 * (F_inv (461845907 : Int32))).toUInt32 >>> ((15 : Int32) &&& 31).toUInt32).toInt32) ||| ((x0 * (F_inv (461845907 : Int32))) <<< ((17 : Int32) &&& 31))))])
  refine g_imul X5 hx hby d_imx_24 (rfl : 24 + 1 = 25) ?_
  refine own_retI X5 hx hby hlk hrt d_imx_25 (by decide) (by decide) ?_
  show Q_imx Z x0 h0 n0 _ T5.heap _
  exact ⟨rfl, N5, eq5⟩
theorem d_ist_0 : decode method_5_code 0 = .ok (.iload_n 0, 1) := by decide +kernel
theorem d_ist_1 : decode method_5_code 1 = .ok (.ldc 17, 2) := by decide +kernel
theorem d_ist_3 : decode method_5_code 3 = .ok (.isub, 1) := by decide +kernel
theorem d_ist_4 : decode method_5_code 4 = .ok (.iconst 5, 1) := by decide +kernel
theorem d_ist_5 : decode method_5_code 5 = .ok (.invokestatic 8, 3) := by decide +kernel
theorem d_ist_8 : decode method_5_code 8 = .ok (.imul, 1) := by decide +kernel
theorem d_ist_9 : decode method_5_code 9 = .ok (.istore_n 1, 1) := by decide +kernel
theorem d_ist_10 : decode method_5_code 10 = .ok (.iload_n 1, 1) := by decide +kernel
theorem d_ist_11 : decode method_5_code 11 = .ok (.bipush 13, 2) := by decide +kernel
theorem d_ist_13 : decode method_5_code 13 = .ok (.iushr, 1) := by decide +kernel
theorem d_ist_14 : decode method_5_code 14 = .ok (.iload_n 1, 1) := by decide +kernel
theorem d_ist_15 : decode method_5_code 15 = .ok (.bipush 19, 2) := by decide +kernel
theorem d_ist_17 : decode method_5_code 17 = .ok (.ishl, 1) := by decide +kernel
theorem d_ist_18 : decode method_5_code 18 = .ok (.ior, 1) := by decide +kernel
theorem d_ist_19 : decode method_5_code 19 = .ok (.ireturn, 1) := by decide +kernel
theorem ef_ist (m : MethodId) (x0 : Int32) : entryFrame m #[(.int x0)] 2 = mkF m 0 #[.val (.int x0), .unset] [] := by first | (simp [entryFrame, mkF, argsToLocals, Value.category]; done) | rfl
def F_ist (x0 : Int32) : Int32 := (((((x0 - (-430675100 : Int32)) * (F_inv (5 : Int32))).toUInt32 >>> ((13 : Int32) &&& 31).toUInt32).toInt32) ||| (((x0 - (-430675100 : Int32)) * (F_inv (5 : Int32))) <<< ((19 : Int32) &&& 31)))
def Q_ist (Z : State) (x0 : Int32) (h0 : Heap) (n0 : Nat) (v : Option Value) (h : Heap) (L : List Loc) : Prop := v = some (.int (F_ist x0)) ∧ Fr n0 L ∧ h = h0
set_option maxRecDepth 65536 in
set_option maxHeartbeats 40000000 in
theorem rm_ist (l : Launch) (Z : State) (aT : Array Value) (hw : ∀ d ∈ tables_1, d.before aT Z = true) (ws : List Jvm.Cond) (x0 : Int32) (h0 : Heap) (n0 : Nat) (Z0 : n0 ≤ h0.size) :
    MetFree l (⟨"com/example/farshard/farshard/store/Murmur3Hash32PinLaw", "invStep", "(I)I"⟩ : MethodName) (head1 (Jvm.Cond.code (⟨"com/example/farshard/farshard/store/Murmur3Hash32PinLaw", "invStep", "(I)I"⟩ : MethodName) method_5_code 2 (some .int) :: ws) ({ frames := 1, cells := 0, slots := 0, locals := 14 } : Room)) (fun a U => a = #[(.int x0)] ∧ Z.Warmed39 U.vm ∧ U.heap = h0) (fun _ _ _ _ _ => True) (fun _ U o U' => ∃ v L, o = .returned v ∧ Q_ist Z x0 h0 n0 v U'.heap L ∧ FrameEnd U o U' L ({ frames := 1, cells := 0, slots := 0, locals := 14 } : Room).cells ({ frames := 1, cells := 0, slots := 0, locals := 14 } : Room).slots) := by
  refine MetFree.of_bodySF (plainFor_of_name pn2) hisR ?_
  intro p e s m args below meth c s₁ Bd hml0 hP hK
  obtain ⟨rfl, hZ, hh⟩ := hP
  have hx := Bd.exec
  have hby := Bd.bytes
  have hml : c.maxLocals = 2 := hml0
  have hown : s.vm.findClass "com/example/farshard/farshard/store/Murmur3Hash32PinLaw" = some m.cls := findClass_of_methodNamed Bd.named
  have hnm := (name_of_methodNamed Bd.named Bd.method).1
  have hlk := Bd.notSynchronized
  have hrt := Bd.returns
  have X0 : Stand p l e ({ frames := 1, cells := 0, slots := 0, locals := 14 } : Room) s m #[(.int x0)] below meth c s₁ [] 0 0 := Stand.of_body Bd
  have e0 : s₁.heap = h0 := by rw [← hh, Bd.state]; rfl
  have N0 := Fr.nil n0
  refine own_cast (P := own_End s (Q_ist Z x0 h0 n0) ({ frames := 1, cells := 0, slots := 0, locals := 14 } : Room).cells ({ frames := 1, cells := 0, slots := 0, locals := 14 } : Room).slots) (ef_ist m x0) ?_
  refine g_iloadN X0 hx hby d_ist_0 rfl (rfl : 0 + 1 = 1) ?_
  refine g_ldcI X0 hx hby hZ hown (hw _ (List.mem_of_getElem? (i := 35) rfl)) d_ist_1 (rfl : 1 + 2 = 3) ?_
  refine g_isub X0 hx hby d_ist_3 (rfl : 3 + 1 = 4) ?_
  refine g_iconst X0 hx hby (5 : Int32) d_ist_4 (by decide) (rfl : 4 + 1 = 5) ?_
  obtain ⟨_, _, ⟨T6, L6, k6, n6⟩, -, X6, ⟨Lc6, hQ6, l6, y6, z6⟩, st6⟩ := Jvm.LawKit.callS X0 hx (y := (⟨"com/example/farshard/farshard/store/Murmur3Hash32PinLaw", "inv", "(I)I"⟩ : MethodName)) hown (mvT hZ (hw _ (List.mem_of_getElem? (i := 13) rfl))) (mvT hZ (hw _ (List.mem_of_getElem? (i := 14) rfl))) (mvT hZ (hw _ (List.mem_of_getElem? (i := 10) rfl))) (mvT hZ (hw _ (List.mem_of_getElem? (i := 15) rfl))) (by decide) (backOf (W := 1) (rm_inv l Z aT hw [] (5 : Int32) h0 n0 Z0) hZ (hw _ (List.mem_of_getElem? (i := 15) rfl)) (hw _ (List.mem_of_getElem? (i := 10) rfl)) (by decide) (by decide)) (g := (mkF m 5 #[.val (.int x0), .unset] [(.int (5 : Int32)), (.int (x0 - (-430675100 : Int32)))])) rfl (by rw [hml]; rfl) (argsL := [(.int (5 : Int32))]) (rest := [(.int (x0 - (-430675100 : Int32)))]) (lenOf pd1 rfl) rfl (by show 2 * 0 + _ ≤ _; exact Nat.le_of_eq rfl) (hb hby d_ist_5) (fun _ _ => ⟨rfl, e0, (by decide : 0 + 0 ≤ _), (by decide : 0 + 0 ≤ _)⟩)
  dsimp only [Pt.U, Pt.locs, Pt.cells, Pt.slots] at X6 l6 y6 z6 st6 hQ6
  subst l6 y6 z6
  obtain ⟨rfl, N6q, eq6⟩ := hQ6
  have N6 := Fr.app N0 N6q
  refine own_go st6 ?_
  show own_Got p e below _ T6 (mkF m 8 #[.val (.int x0), .unset] [(.int (F_inv (5 : Int32))), (.int (x0 - (-430675100 : Int32)))])
  refine g_imul X6 hx hby d_ist_8 (rfl : 8 + 1 = 9) ?_
  refine g_istoreN X6 hx hby #[.val (.int x0), .val (.int ((x0 - (-430675100 : Int32)) * (F_inv (5 : Int32))))] d_ist_9 rfl (rfl : 9 + 1 = 10) ?_
  refine g_iloadN X6 hx hby d_ist_10 rfl (rfl : 10 + 1 = 11) ?_
  refine g_bipush X6 hx hby (13 : Int32) d_ist_11 (by decide) (rfl : 11 + 2 = 13) ?_
  refine g_iushr X6 hx hby d_ist_13 (rfl : 13 + 1 = 14) ?_
  refine g_iloadN X6 hx hby d_ist_14 rfl (rfl : 14 + 1 = 15) ?_
  refine g_bipush X6 hx hby (19 : Int32) d_ist_15 (by decide) (rfl : 15 + 2 = 17) ?_
  refine g_ishl X6 hx hby d_ist_17 (rfl : 17 + 1 = 18) ?_
  refine g_ior X6 hx hby d_ist_18 (rfl : 18 + 1 = 19) ?_
  refine own_retI X6 hx hby hlk hrt d_ist_19 (by decide) (by decide) ?_
  show Q_ist Z x0 h0 n0 _ T6.heap _
  exact ⟨rfl, N6, eq6⟩
theorem d_hs0_0 : decode prog_62_method_2_code 0 = .ok (.iconst 0, 1) := by decide +kernel
theorem d_hs0_1 : decode prog_62_method_2_code 1 = .ok (.istore_n 1, 1) := by decide +kernel
theorem d_hs0_2 : decode prog_62_method_2_code 2 = .ok (.aload_n 0, 1) := by decide +kernel
theorem d_hs0_3 : decode prog_62_method_2_code 3 = .ok (.arraylength, 1) := by decide +kernel
theorem d_hs0_4 : decode prog_62_method_2_code 4 = .ok (.bipush (-4), 2) := by decide +kernel
theorem d_hs0_6 : decode prog_62_method_2_code 6 = .ok (.iand, 1) := by decide +kernel
theorem d_hs0_7 : decode prog_62_method_2_code 7 = .ok (.istore_n 2, 1) := by decide +kernel
theorem d_hs0_8 : decode prog_62_method_2_code 8 = .ok (.iconst 0, 1) := by decide +kernel
theorem d_hs0_9 : decode prog_62_method_2_code 9 = .ok (.istore_n 3, 1) := by decide +kernel
theorem d_hs0_10 : decode prog_62_method_2_code 10 = .ok (.iload_n 3, 1) := by decide +kernel
theorem d_hs0_11 : decode prog_62_method_2_code 11 = .ok (.iload_n 2, 1) := by decide +kernel
theorem d_hs0_12 : decode prog_62_method_2_code 12 = .ok (.if_icmp .ge 73, 3) := by decide +kernel
theorem d_hs0_85 : decode prog_62_method_2_code 85 = .ok (.aload_n 0, 1) := by decide +kernel
theorem d_hs0_86 : decode prog_62_method_2_code 86 = .ok (.arraylength, 1) := by decide +kernel
theorem d_hs0_87 : decode prog_62_method_2_code 87 = .ok (.iconst 3, 1) := by decide +kernel
theorem d_hs0_88 : decode prog_62_method_2_code 88 = .ok (.iand, 1) := by decide +kernel
theorem d_hs0_89 : decode prog_62_method_2_code 89 = .ok (.istore_n 3, 1) := by decide +kernel
theorem d_hs0_90 : decode prog_62_method_2_code 90 = .ok (.iload_n 3, 1) := by decide +kernel
theorem d_hs0_91 : decode prog_62_method_2_code 91 = .ok (.ifCond .le 64, 3) := by decide +kernel
theorem d_hs0_155 : decode prog_62_method_2_code 155 = .ok (.iload_n 1, 1) := by decide +kernel
theorem d_hs0_156 : decode prog_62_method_2_code 156 = .ok (.aload_n 0, 1) := by decide +kernel
theorem d_hs0_157 : decode prog_62_method_2_code 157 = .ok (.arraylength, 1) := by decide +kernel
theorem d_hs0_158 : decode prog_62_method_2_code 158 = .ok (.ixor, 1) := by decide +kernel
theorem d_hs0_159 : decode prog_62_method_2_code 159 = .ok (.istore_n 1, 1) := by decide +kernel
theorem d_hs0_160 : decode prog_62_method_2_code 160 = .ok (.iload_n 1, 1) := by decide +kernel
theorem d_hs0_161 : decode prog_62_method_2_code 161 = .ok (.iload_n 1, 1) := by decide +kernel
theorem d_hs0_162 : decode prog_62_method_2_code 162 = .ok (.bipush 16, 2) := by decide +kernel
theorem d_hs0_164 : decode prog_62_method_2_code 164 = .ok (.iushr, 1) := by decide +kernel
theorem d_hs0_165 : decode prog_62_method_2_code 165 = .ok (.ixor, 1) := by decide +kernel
theorem d_hs0_166 : decode prog_62_method_2_code 166 = .ok (.istore_n 1, 1) := by decide +kernel
theorem d_hs0_167 : decode prog_62_method_2_code 167 = .ok (.iload_n 1, 1) := by decide +kernel
theorem d_hs0_168 : decode prog_62_method_2_code 168 = .ok (.ldc 20, 2) := by decide +kernel
theorem d_hs0_170 : decode prog_62_method_2_code 170 = .ok (.imul, 1) := by decide +kernel
theorem d_hs0_171 : decode prog_62_method_2_code 171 = .ok (.istore_n 1, 1) := by decide +kernel
theorem d_hs0_172 : decode prog_62_method_2_code 172 = .ok (.iload_n 1, 1) := by decide +kernel
theorem d_hs0_173 : decode prog_62_method_2_code 173 = .ok (.iload_n 1, 1) := by decide +kernel
theorem d_hs0_174 : decode prog_62_method_2_code 174 = .ok (.bipush 13, 2) := by decide +kernel
theorem d_hs0_176 : decode prog_62_method_2_code 176 = .ok (.iushr, 1) := by decide +kernel
theorem d_hs0_177 : decode prog_62_method_2_code 177 = .ok (.ixor, 1) := by decide +kernel
theorem d_hs0_178 : decode prog_62_method_2_code 178 = .ok (.istore_n 1, 1) := by decide +kernel
theorem d_hs0_179 : decode prog_62_method_2_code 179 = .ok (.iload_n 1, 1) := by decide +kernel
theorem d_hs0_180 : decode prog_62_method_2_code 180 = .ok (.ldc 21, 2) := by decide +kernel
theorem d_hs0_182 : decode prog_62_method_2_code 182 = .ok (.imul, 1) := by decide +kernel
theorem d_hs0_183 : decode prog_62_method_2_code 183 = .ok (.istore_n 1, 1) := by decide +kernel
theorem d_hs0_184 : decode prog_62_method_2_code 184 = .ok (.iload_n 1, 1) := by decide +kernel
theorem d_hs0_185 : decode prog_62_method_2_code 185 = .ok (.iload_n 1, 1) := by decide +kernel
theorem d_hs0_186 : decode prog_62_method_2_code 186 = .ok (.bipush 16, 2) := by decide +kernel
theorem d_hs0_188 : decode prog_62_method_2_code 188 = .ok (.iushr, 1) := by decide +kernel
theorem d_hs0_189 : decode prog_62_method_2_code 189 = .ok (.ixor, 1) := by decide +kernel
theorem d_hs0_190 : decode prog_62_method_2_code 190 = .ok (.ireturn, 1) := by decide +kernel
theorem ef_hs0 (m : MethodId) (a0 : Addr) : entryFrame m #[(.ref a0)] 5 = mkF m 0 #[.val (.ref a0), .unset, .unset, .unset, .unset] [] := by first | (simp [entryFrame, mkF, argsToLocals, Value.category]; done) | rfl
def F_hs0 (kk : ClassId) : Int32 := (0 : Int32)
def Q_hs0 (Z : State) (a0 : Addr) (kk : ClassId) (h0 : Heap) (n0 : Nat) (v : Option Value) (h : Heap) (L : List Loc) : Prop := v = some (.int (F_hs0 kk)) ∧ Fr n0 L ∧ h = h0
set_option maxRecDepth 65536 in
set_option maxHeartbeats 40000000 in
theorem rm_hs0 (l : Launch) (Z : State) (aT : Array Value) (hw : ∀ d ∈ tables_1, d.before aT Z = true) (ws : List Jvm.Cond) (a0 : Addr) (kk : ClassId) (h0 : Heap) (n0 : Nat) (Z0 : n0 ≤ h0.size) (hp0 : Arv Z h0 a0 kk .byte (0 : Int32) [] (.int (0 : Int32))) :
    MetFree l (⟨"com/example/farshard/farshard/store/Murmur3", "hash32", "([B)I"⟩ : MethodName) (head1 (Jvm.Cond.code (⟨"com/example/farshard/farshard/store/Murmur3", "hash32", "([B)I"⟩ : MethodName) prog_62_method_2_code 5 (some .int) :: ws) ({ frames := 0, cells := 0, slots := 0, locals := 0 } : Room)) (fun a U => a = #[(.ref a0)] ∧ Z.Warmed39 U.vm ∧ U.heap = h0) (fun _ _ _ _ _ => True) (fun _ U o U' => ∃ v L, o = .returned v ∧ Q_hs0 Z a0 kk h0 n0 v U'.heap L ∧ FrameEnd U o U' L ({ frames := 0, cells := 0, slots := 0, locals := 0 } : Room).cells ({ frames := 0, cells := 0, slots := 0, locals := 0 } : Room).slots) := by
  refine MetFree.of_bodySF (plainFor_of_name pn1) hisR ?_
  intro p e s m args below meth c s₁ Bd hml0 hP hK
  obtain ⟨rfl, hZ, hh⟩ := hP
  have hx := Bd.exec
  have hby := Bd.bytes
  have hml : c.maxLocals = 5 := hml0
  have hown : s.vm.findClass "com/example/farshard/farshard/store/Murmur3" = some m.cls := findClass_of_methodNamed Bd.named
  have hnm := (name_of_methodNamed Bd.named Bd.method).1
  have hlk := Bd.notSynchronized
  have hrt := Bd.returns
  have X0 : Stand p l e ({ frames := 0, cells := 0, slots := 0, locals := 0 } : Room) s m #[(.ref a0)] below meth c s₁ [] 0 0 := Stand.of_body Bd
  have e0 : s₁.heap = h0 := by rw [← hh, Bd.state]; rfl
  have N0 := Fr.nil n0
  refine own_cast (P := own_End s (Q_hs0 Z a0 kk h0 n0) ({ frames := 0, cells := 0, slots := 0, locals := 0 } : Room).cells ({ frames := 0, cells := 0, slots := 0, locals := 0 } : Room).slots) (ef_hs0 m a0) ?_
  refine g_iconst X0 hx hby (0 : Int32) d_hs0_0 (by decide) (rfl : 0 + 1 = 1) ?_
  refine g_istoreN X0 hx hby #[.val (.ref a0), .val (.int (0 : Int32)), .unset, .unset, .unset] d_hs0_1 rfl (rfl : 1 + 1 = 2) ?_
  refine g_aloadN X0 hx hby d_hs0_2 rfl rfl (rfl : 2 + 1 = 3) ?_
  refine g_alen X0 hx hby hZ e0 hp0 d_hs0_3 (rfl : 3 + 1 = 4) ?_
  refine g_bipush X0 hx hby (-4 : Int32) d_hs0_4 (by decide) (rfl : 4 + 2 = 6) ?_
  refine g_iand X0 hx hby d_hs0_6 (rfl : 6 + 1 = 7) ?_
  rw [(by decide : ((0 : Int32) &&& (-4 : Int32)) = (0 : Int32))]
  refine g_istoreN X0 hx hby #[.val (.ref a0), .val (.int (0 : Int32)), .val (.int (0 : Int32)), .unset, .unset] d_hs0_7 rfl (rfl : 7 + 1 = 8) ?_
  refine g_iconst X0 hx hby (0 : Int32) d_hs0_8 (by decide) (rfl : 8 + 1 = 9) ?_
  refine g_istoreN X0 hx hby #[.val (.ref a0), .val (.int (0 : Int32)), .val (.int (0 : Int32)), .val (.int (0 : Int32)), .unset] d_hs0_9 rfl (rfl : 9 + 1 = 10) ?_
  refine g_iloadN X0 hx hby d_hs0_10 rfl (rfl : 10 + 1 = 11) ?_
  refine g_iloadN X0 hx hby d_hs0_11 rfl (rfl : 11 + 1 = 12) ?_
  refine g_icT X0 hx hby d_hs0_12 (flt (by decide : ¬ ((0 : Int32) < (0 : Int32)))).2.1 (by decide) (pc' := 85) (by decide) ?_
  refine g_aloadN X0 hx hby d_hs0_85 rfl rfl (rfl : 85 + 1 = 86) ?_
  refine g_alen X0 hx hby hZ e0 hp0 d_hs0_86 (rfl : 86 + 1 = 87) ?_
  refine g_iconst X0 hx hby (3 : Int32) d_hs0_87 (by decide) (rfl : 87 + 1 = 88) ?_
  refine g_iand X0 hx hby d_hs0_88 (rfl : 88 + 1 = 89) ?_
  rw [(by decide : ((0 : Int32) &&& (3 : Int32)) = (0 : Int32))]
  refine g_istoreN X0 hx hby #[.val (.ref a0), .val (.int (0 : Int32)), .val (.int (0 : Int32)), .val (.int (0 : Int32)), .unset] d_hs0_89 rfl (rfl : 89 + 1 = 90) ?_
  refine g_iloadN X0 hx hby d_hs0_90 rfl (rfl : 90 + 1 = 91) ?_
  refine g_ifT X0 hx hby d_hs0_91 ((if0 _ _).trans (flt (by decide : ¬ ((0 : Int32) < (0 : Int32)))).2.2.2) (by decide) (pc' := 155) (by decide) ?_
  refine g_iloadN X0 hx hby d_hs0_155 rfl (rfl : 155 + 1 = 156) ?_
  refine g_aloadN X0 hx hby d_hs0_156 rfl rfl (rfl : 156 + 1 = 157) ?_
  refine g_alen X0 hx hby hZ e0 hp0 d_hs0_157 (rfl : 157 + 1 = 158) ?_
  refine g_ixor X0 hx hby d_hs0_158 (rfl : 158 + 1 = 159) ?_
  rw [(by decide : ((0 : Int32) ^^^ (0 : Int32)) = (0 : Int32))]
  refine g_istoreN X0 hx hby #[.val (.ref a0), .val (.int (0 : Int32)), .val (.int (0 : Int32)), .val (.int (0 : Int32)), .unset] d_hs0_159 rfl (rfl : 159 + 1 = 160) ?_
  refine g_iloadN X0 hx hby d_hs0_160 rfl (rfl : 160 + 1 = 161) ?_
  refine g_iloadN X0 hx hby d_hs0_161 rfl (rfl : 161 + 1 = 162) ?_
  refine g_bipush X0 hx hby (16 : Int32) d_hs0_162 (by decide) (rfl : 162 + 2 = 164) ?_
  refine g_iushr X0 hx hby d_hs0_164 (rfl : 164 + 1 = 165) ?_
  rw [(by decide : (((0 : Int32).toUInt32 >>> ((16 : Int32) &&& 31).toUInt32).toInt32) = (0 : Int32))]
  refine g_ixor X0 hx hby d_hs0_165 (rfl : 165 + 1 = 166) ?_
  rw [(by decide : ((0 : Int32) ^^^ (0 : Int32)) = (0 : Int32))]
  refine g_istoreN X0 hx hby #[.val (.ref a0), .val (.int (0 : Int32)), .val (.int (0 : Int32)), .val (.int (0 : Int32)), .unset] d_hs0_166 rfl (rfl : 166 + 1 = 167) ?_
  refine g_iloadN X0 hx hby d_hs0_167 rfl (rfl : 167 + 1 = 168) ?_
  refine g_ldcI X0 hx hby hZ hown (hw _ (List.mem_of_getElem? (i := 6) rfl)) d_hs0_168 (rfl : 168 + 2 = 170) ?_
  refine g_imul X0 hx hby d_hs0_170 (rfl : 170 + 1 = 171) ?_
  rw [(by decide : ((0 : Int32) * (-2048144789 : Int32)) = (0 : Int32))]
  refine g_istoreN X0 hx hby #[.val (.ref a0), .val (.int (0 : Int32)), .val (.int (0 : Int32)), .val (.int (0 : Int32)), .unset] d_hs0_171 rfl (rfl : 171 + 1 = 172) ?_
  refine g_iloadN X0 hx hby d_hs0_172 rfl (rfl : 172 + 1 = 173) ?_
  refine g_iloadN X0 hx hby d_hs0_173 rfl (rfl : 173 + 1 = 174) ?_
  refine g_bipush X0 hx hby (13 : Int32) d_hs0_174 (by decide) (rfl : 174 + 2 = 176) ?_
  refine g_iushr X0 hx hby d_hs0_176 (rfl : 176 + 1 = 177) ?_
  rw [(by decide : (((0 : Int32).toUInt32 >>> ((13 : Int32) &&& 31).toUInt32).toInt32) = (0 : Int32))]
  refine g_ixor X0 hx hby d_hs0_177 (rfl : 177 + 1 = 178) ?_
  rw [(by decide : ((0 : Int32) ^^^ (0 : Int32)) = (0 : Int32))]
  refine g_istoreN X0 hx hby #[.val (.ref a0), .val (.int (0 : Int32)), .val (.int (0 : Int32)), .val (.int (0 : Int32)), .unset] d_hs0_178 rfl (rfl : 178 + 1 = 179) ?_
  refine g_iloadN X0 hx hby d_hs0_179 rfl (rfl : 179 + 1 = 180) ?_
  refine g_ldcI X0 hx hby hZ hown (hw _ (List.mem_of_getElem? (i := 7) rfl)) d_hs0_180 (rfl : 180 + 2 = 182) ?_
  refine g_imul X0 hx hby d_hs0_182 (rfl : 182 + 1 = 183) ?_
  rw [(by decide : ((0 : Int32) * (-1028477387 : Int32)) = (0 : Int32))]
  refine g_istoreN X0 hx hby #[.val (.ref a0), .val (.int (0 : Int32)), .val (.int (0 : Int32)), .val (.int (0 : Int32)), .unset] d_hs0_183 rfl (rfl : 183 + 1 = 184) ?_
  refine g_iloadN X0 hx hby d_hs0_184 rfl (rfl : 184 + 1 = 185) ?_
  refine g_iloadN X0 hx hby d_hs0_185 rfl (rfl : 185 + 1 = 186) ?_
  refine g_bipush X0 hx hby (16 : Int32) d_hs0_186 (by decide) (rfl : 186 + 2 = 188) ?_
  refine g_iushr X0 hx hby d_hs0_188 (rfl : 188 + 1 = 189) ?_
  rw [(by decide : (((0 : Int32).toUInt32 >>> ((16 : Int32) &&& 31).toUInt32).toInt32) = (0 : Int32))]
  refine g_ixor X0 hx hby d_hs0_189 (rfl : 189 + 1 = 190) ?_
  rw [(by decide : ((0 : Int32) ^^^ (0 : Int32)) = (0 : Int32))]
  refine own_retI X0 hx hby hlk hrt d_hs0_190 (by decide) (by decide) ?_
  show Q_hs0 Z a0 kk h0 n0 _ s₁.heap _
  exact ⟨rfl, N0, e0⟩
theorem d_hs1_0 : decode prog_62_method_2_code 0 = .ok (.iconst 0, 1) := by decide +kernel
theorem d_hs1_1 : decode prog_62_method_2_code 1 = .ok (.istore_n 1, 1) := by decide +kernel
theorem d_hs1_2 : decode prog_62_method_2_code 2 = .ok (.aload_n 0, 1) := by decide +kernel
theorem d_hs1_3 : decode prog_62_method_2_code 3 = .ok (.arraylength, 1) := by decide +kernel
theorem d_hs1_4 : decode prog_62_method_2_code 4 = .ok (.bipush (-4), 2) := by decide +kernel
theorem d_hs1_6 : decode prog_62_method_2_code 6 = .ok (.iand, 1) := by decide +kernel
theorem d_hs1_7 : decode prog_62_method_2_code 7 = .ok (.istore_n 2, 1) := by decide +kernel
theorem d_hs1_8 : decode prog_62_method_2_code 8 = .ok (.iconst 0, 1) := by decide +kernel
theorem d_hs1_9 : decode prog_62_method_2_code 9 = .ok (.istore_n 3, 1) := by decide +kernel
theorem d_hs1_10 : decode prog_62_method_2_code 10 = .ok (.iload_n 3, 1) := by decide +kernel
theorem d_hs1_11 : decode prog_62_method_2_code 11 = .ok (.iload_n 2, 1) := by decide +kernel
theorem d_hs1_12 : decode prog_62_method_2_code 12 = .ok (.if_icmp .ge 73, 3) := by decide +kernel
theorem d_hs1_85 : decode prog_62_method_2_code 85 = .ok (.aload_n 0, 1) := by decide +kernel
theorem d_hs1_86 : decode prog_62_method_2_code 86 = .ok (.arraylength, 1) := by decide +kernel
theorem d_hs1_87 : decode prog_62_method_2_code 87 = .ok (.iconst 3, 1) := by decide +kernel
theorem d_hs1_88 : decode prog_62_method_2_code 88 = .ok (.iand, 1) := by decide +kernel
theorem d_hs1_89 : decode prog_62_method_2_code 89 = .ok (.istore_n 3, 1) := by decide +kernel
theorem d_hs1_90 : decode prog_62_method_2_code 90 = .ok (.iload_n 3, 1) := by decide +kernel
theorem d_hs1_91 : decode prog_62_method_2_code 91 = .ok (.ifCond .le 64, 3) := by decide +kernel
theorem d_hs1_94 : decode prog_62_method_2_code 94 = .ok (.aload_n 0, 1) := by decide +kernel
theorem d_hs1_95 : decode prog_62_method_2_code 95 = .ok (.iload_n 2, 1) := by decide +kernel
theorem d_hs1_96 : decode prog_62_method_2_code 96 = .ok (.baload, 1) := by decide +kernel
theorem d_hs1_97 : decode prog_62_method_2_code 97 = .ok (.sipush 255, 3) := by decide +kernel
theorem d_hs1_100 : decode prog_62_method_2_code 100 = .ok (.iand, 1) := by decide +kernel
theorem d_hs1_101 : decode prog_62_method_2_code 101 = .ok (.istore 4, 2) := by decide +kernel
theorem d_hs1_103 : decode prog_62_method_2_code 103 = .ok (.iload_n 3, 1) := by decide +kernel
theorem d_hs1_104 : decode prog_62_method_2_code 104 = .ok (.iconst 1, 1) := by decide +kernel
theorem d_hs1_105 : decode prog_62_method_2_code 105 = .ok (.if_icmp .le 20, 3) := by decide +kernel
theorem d_hs1_125 : decode prog_62_method_2_code 125 = .ok (.iload_n 3, 1) := by decide +kernel
theorem d_hs1_126 : decode prog_62_method_2_code 126 = .ok (.iconst 2, 1) := by decide +kernel
theorem d_hs1_127 : decode prog_62_method_2_code 127 = .ok (.if_icmp .le 20, 3) := by decide +kernel
theorem d_hs1_147 : decode prog_62_method_2_code 147 = .ok (.iload_n 1, 1) := by decide +kernel
theorem d_hs1_148 : decode prog_62_method_2_code 148 = .ok (.iload 4, 2) := by decide +kernel
theorem d_hs1_150 : decode prog_62_method_2_code 150 = .ok (.invokestatic 7, 3) := by decide +kernel
theorem d_hs1_153 : decode prog_62_method_2_code 153 = .ok (.ixor, 1) := by decide +kernel
theorem d_hs1_154 : decode prog_62_method_2_code 154 = .ok (.istore_n 1, 1) := by decide +kernel
theorem d_hs1_155 : decode prog_62_method_2_code 155 = .ok (.iload_n 1, 1) := by decide +kernel
theorem d_hs1_156 : decode prog_62_method_2_code 156 = .ok (.aload_n 0, 1) := by decide +kernel
theorem d_hs1_157 : decode prog_62_method_2_code 157 = .ok (.arraylength, 1) := by decide +kernel
theorem d_hs1_158 : decode prog_62_method_2_code 158 = .ok (.ixor, 1) := by decide +kernel
theorem d_hs1_159 : decode prog_62_method_2_code 159 = .ok (.istore_n 1, 1) := by decide +kernel
theorem d_hs1_160 : decode prog_62_method_2_code 160 = .ok (.iload_n 1, 1) := by decide +kernel
theorem d_hs1_161 : decode prog_62_method_2_code 161 = .ok (.iload_n 1, 1) := by decide +kernel
theorem d_hs1_162 : decode prog_62_method_2_code 162 = .ok (.bipush 16, 2) := by decide +kernel
theorem d_hs1_164 : decode prog_62_method_2_code 164 = .ok (.iushr, 1) := by decide +kernel
theorem d_hs1_165 : decode prog_62_method_2_code 165 = .ok (.ixor, 1) := by decide +kernel
theorem d_hs1_166 : decode prog_62_method_2_code 166 = .ok (.istore_n 1, 1) := by decide +kernel
theorem d_hs1_167 : decode prog_62_method_2_code 167 = .ok (.iload_n 1, 1) := by decide +kernel
theorem d_hs1_168 : decode prog_62_method_2_code 168 = .ok (.ldc 20, 2) := by decide +kernel
theorem d_hs1_170 : decode prog_62_method_2_code 170 = .ok (.imul, 1) := by decide +kernel
theorem d_hs1_171 : decode prog_62_method_2_code 171 = .ok (.istore_n 1, 1) := by decide +kernel
theorem d_hs1_172 : decode prog_62_method_2_code 172 = .ok (.iload_n 1, 1) := by decide +kernel
theorem d_hs1_173 : decode prog_62_method_2_code 173 = .ok (.iload_n 1, 1) := by decide +kernel
theorem d_hs1_174 : decode prog_62_method_2_code 174 = .ok (.bipush 13, 2) := by decide +kernel
theorem d_hs1_176 : decode prog_62_method_2_code 176 = .ok (.iushr, 1) := by decide +kernel
theorem d_hs1_177 : decode prog_62_method_2_code 177 = .ok (.ixor, 1) := by decide +kernel
theorem d_hs1_178 : decode prog_62_method_2_code 178 = .ok (.istore_n 1, 1) := by decide +kernel
theorem d_hs1_179 : decode prog_62_method_2_code 179 = .ok (.iload_n 1, 1) := by decide +kernel
theorem d_hs1_180 : decode prog_62_method_2_code 180 = .ok (.ldc 21, 2) := by decide +kernel
theorem d_hs1_182 : decode prog_62_method_2_code 182 = .ok (.imul, 1) := by decide +kernel
theorem d_hs1_183 : decode prog_62_method_2_code 183 = .ok (.istore_n 1, 1) := by decide +kernel
theorem d_hs1_184 : decode prog_62_method_2_code 184 = .ok (.iload_n 1, 1) := by decide +kernel
theorem d_hs1_185 : decode prog_62_method_2_code 185 = .ok (.iload_n 1, 1) := by decide +kernel
theorem d_hs1_186 : decode prog_62_method_2_code 186 = .ok (.bipush 16, 2) := by decide +kernel
theorem d_hs1_188 : decode prog_62_method_2_code 188 = .ok (.iushr, 1) := by decide +kernel
theorem d_hs1_189 : decode prog_62_method_2_code 189 = .ok (.ixor, 1) := by decide +kernel
theorem d_hs1_190 : decode prog_62_method_2_code 190 = .ok (.ireturn, 1) := by decide +kernel
theorem ef_hs1 (m : MethodId) (a0 : Addr) : entryFrame m #[(.ref a0)] 5 = mkF m 0 #[.val (.ref a0), .unset, .unset, .unset, .unset] [] := by first | (simp [entryFrame, mkF, argsToLocals, Value.category]; done) | rfl
def F_hs1 (u0 : Int32) : Int32 := ((((((((0 : Int32) ^^^ (F_mix (u0 &&& (255 : Int32)))) ^^^ (1 : Int32)) ^^^ (((((0 : Int32) ^^^ (F_mix (u0 &&& (255 : Int32)))) ^^^ (1 : Int32)).toUInt32 >>> ((16 : Int32) &&& 31).toUInt32).toInt32)) * (-2048144789 : Int32)) ^^^ (((((((0 : Int32) ^^^ (F_mix (u0 &&& (255 : Int32)))) ^^^ (1 : Int32)) ^^^ (((((0 : Int32) ^^^ (F_mix (u0 &&& (255 : Int32)))) ^^^ (1 : Int32)).toUInt32 >>> ((16 : Int32) &&& 31).toUInt32).toInt32)) * (-2048144789 : Int32)).toUInt32 >>> ((13 : Int32) &&& 31).toUInt32).toInt32)) * (-1028477387 : Int32)) ^^^ (((((((((0 : Int32) ^^^ (F_mix (u0 &&& (255 : Int32)))) ^^^ (1 : Int32)) ^^^ (((((0 : Int32) ^^^ (F_mix (u0 &&& (255 : Int32)))) ^^^ (1 : Int32)).toUInt32 >>> ((16 : Int32) &&& 31).toUInt32).toInt32)) * (-2048144789 : Int32)) ^^^ (((((((0 : Int32) ^^^ (F_mix (u0 &&& (255 : Int32)))) ^^^ (1 : Int32)) ^^^ (((((0 : Int32) ^^^ (F_mix (u0 &&& (255 : Int32)))) ^^^ (1 : Int32)).toUInt32 >>> ((16 : Int32) &&& 31).toUInt32).toInt32)) * (-2048144789 : Int32)).toUInt32 >>> ((13 : Int32) &&& 31).toUInt32).toInt32)) * (-1028477387 : Int32)).toUInt32 >>> ((16 : Int32) &&& 31).toUInt32).toInt32))
def Q_hs1 (Z : State) (a0 : Addr) (kk : ClassId) (u0 : Int32) (h0 : Heap) (n0 : Nat) (v : Option Value) (h : Heap) (L : List Loc) : Prop := v = some (.int (F_hs1 u0)) ∧ Fr n0 L ∧ h = h0
set_option maxRecDepth 65536 in
set_option maxHeartbeats 40000000 in
theorem rm_hs1 (l : Launch) (Z : State) (aT : Array Value) (hw : ∀ d ∈ tables_1, d.before aT Z = true) (ws : List Jvm.Cond) (a0 : Addr) (kk : ClassId) (u0 : Int32) (h0 : Heap) (n0 : Nat) (Z0 : n0 ≤ h0.size) (hp0 : Arv Z h0 a0 kk .byte (1 : Int32) [(.int u0)] (.int (0 : Int32))) :
    MetFree l (⟨"com/example/farshard/farshard/store/Murmur3", "hash32", "([B)I"⟩ : MethodName) (head1 (Jvm.Cond.code (⟨"com/example/farshard/farshard/store/Murmur3", "hash32", "([B)I"⟩ : MethodName) prog_62_method_2_code 5 (some .int) :: ws) ({ frames := 2, cells := 0, slots := 0, locals := 26 } : Room)) (fun a U => a = #[(.ref a0)] ∧ Z.Warmed39 U.vm ∧ U.heap = h0) (fun _ _ _ _ _ => True) (fun _ U o U' => ∃ v L, o = .returned v ∧ Q_hs1 Z a0 kk u0 h0 n0 v U'.heap L ∧ FrameEnd U o U' L ({ frames := 2, cells := 0, slots := 0, locals := 26 } : Room).cells ({ frames := 2, cells := 0, slots := 0, locals := 26 } : Room).slots) := by
  refine MetFree.of_bodySF (plainFor_of_name pn1) hisR ?_
  intro p e s m args below meth c s₁ Bd hml0 hP hK
  obtain ⟨rfl, hZ, hh⟩ := hP
  have hx := Bd.exec
  have hby := Bd.bytes
  have hml : c.maxLocals = 5 := hml0
  have hown : s.vm.findClass "com/example/farshard/farshard/store/Murmur3" = some m.cls := findClass_of_methodNamed Bd.named
  have hnm := (name_of_methodNamed Bd.named Bd.method).1
  have hlk := Bd.notSynchronized
  have hrt := Bd.returns
  have X0 : Stand p l e ({ frames := 2, cells := 0, slots := 0, locals := 26 } : Room) s m #[(.ref a0)] below meth c s₁ [] 0 0 := Stand.of_body Bd
  have e0 : s₁.heap = h0 := by rw [← hh, Bd.state]; rfl
  have N0 := Fr.nil n0
  refine own_cast (P := own_End s (Q_hs1 Z a0 kk u0 h0 n0) ({ frames := 2, cells := 0, slots := 0, locals := 26 } : Room).cells ({ frames := 2, cells := 0, slots := 0, locals := 26 } : Room).slots) (ef_hs1 m a0) ?_
  refine g_iconst X0 hx hby (0 : Int32) d_hs1_0 (by decide) (rfl : 0 + 1 = 1) ?_
  refine g_istoreN X0 hx hby #[.val (.ref a0), .val (.int (0 : Int32)), .unset, .unset, .unset] d_hs1_1 rfl (rfl : 1 + 1 = 2) ?_
  refine g_aloadN X0 hx hby d_hs1_2 rfl rfl (rfl : 2 + 1 = 3) ?_
  refine g_alen X0 hx hby hZ e0 hp0 d_hs1_3 (rfl : 3 + 1 = 4) ?_
  refine g_bipush X0 hx hby (-4 : Int32) d_hs1_4 (by decide) (rfl : 4 + 2 = 6) ?_
  refine g_iand X0 hx hby d_hs1_6 (rfl : 6 + 1 = 7) ?_
  rw [(by decide : ((1 : Int32) &&& (-4 : Int32)) = (0 : Int32))]
  refine g_istoreN X0 hx hby #[.val (.ref a0), .val (.int (0 : Int32)), .val (.int (0 : Int32)), .unset, .unset] d_hs1_7 rfl (rfl : 7 + 1 = 8) ?_
  refine g_iconst X0 hx hby (0 : Int32) d_hs1_8 (by decide) (rfl : 8 + 1 = 9) ?_
  refine g_istoreN X0 hx hby #[.val (.ref a0), .val (.int (0 : Int32)), .val (.int (0 : Int32)), .val (.int (0 : Int32)), .unset] d_hs1_9 rfl (rfl : 9 + 1 = 10) ?_
  refine g_iloadN X0 hx hby d_hs1_10 rfl (rfl : 10 + 1 = 11) ?_
  refine g_iloadN X0 hx hby d_hs1_11 rfl (rfl : 11 + 1 = 12) ?_
  refine g_icT X0 hx hby d_hs1_12 (flt (by decide : ¬ ((0 : Int32) < (0 : Int32)))).2.1 (by decide) (pc' := 85) (by decide) ?_
  refine g_aloadN X0 hx hby d_hs1_85 rfl rfl (rfl : 85 + 1 = 86) ?_
  refine g_alen X0 hx hby hZ e0 hp0 d_hs1_86 (rfl : 86 + 1 = 87) ?_
  refine g_iconst X0 hx hby (3 : Int32) d_hs1_87 (by decide) (rfl : 87 + 1 = 88) ?_
  refine g_iand X0 hx hby d_hs1_88 (rfl : 88 + 1 = 89) ?_
  rw [(by decide : ((1 : Int32) &&& (3 : Int32)) = (1 : Int32))]
  refine g_istoreN X0 hx hby #[.val (.ref a0), .val (.int (0 : Int32)), .val (.int (0 : Int32)), .val (.int (1 : Int32)), .unset] d_hs1_89 rfl (rfl : 89 + 1 = 90) ?_
  refine g_iloadN X0 hx hby d_hs1_90 rfl (rfl : 90 + 1 = 91) ?_
  refine g_ifF X0 hx hby d_hs1_91 ((if0 _ _).trans (tlt (by decide : (0 : Int32) < (1 : Int32))).2.2.2) (rfl : 91 + 3 = 94) ?_
  refine g_aloadN X0 hx hby d_hs1_94 rfl rfl (rfl : 94 + 1 = 95) ?_
  refine g_iloadN X0 hx hby d_hs1_95 rfl (rfl : 95 + 1 = 96) ?_
  refine g_baload X0 hx hby hZ e0 (v := (.int u0)) hp0 ⟨by decide, by decide⟩ rfl d_hs1_96 (rfl : 96 + 1 = 97) ?_
  refine g_sipush X0 hx hby (255 : Int32) d_hs1_97 (by decide) (rfl : 97 + 3 = 100) ?_
  refine g_iand X0 hx hby d_hs1_100 (rfl : 100 + 1 = 101) ?_
  refine g_istore X0 hx hby #[.val (.ref a0), .val (.int (0 : Int32)), .val (.int (0 : Int32)), .val (.int (1 : Int32)), .val (.int (u0 &&& (255 : Int32)))] d_hs1_101 rfl (rfl : 101 + 2 = 103) ?_
  refine g_iloadN X0 hx hby d_hs1_103 rfl (rfl : 103 + 1 = 104) ?_
  refine g_iconst X0 hx hby (1 : Int32) d_hs1_104 (by decide) (rfl : 104 + 1 = 105) ?_
  refine g_icT X0 hx hby d_hs1_105 (flt (by decide : ¬ ((1 : Int32) < (1 : Int32)))).2.2.2 (by decide) (pc' := 125) (by decide) ?_
  refine g_iloadN X0 hx hby d_hs1_125 rfl (rfl : 125 + 1 = 126) ?_
  refine g_iconst X0 hx hby (2 : Int32) d_hs1_126 (by decide) (rfl : 126 + 1 = 127) ?_
  refine g_icT X0 hx hby d_hs1_127 (flt (by decide : ¬ ((2 : Int32) < (1 : Int32)))).2.2.2 (by decide) (pc' := 147) (by decide) ?_
  refine g_iloadN X0 hx hby d_hs1_147 rfl (rfl : 147 + 1 = 148) ?_
  refine g_iload X0 hx hby d_hs1_148 rfl (rfl : 148 + 2 = 150) ?_
  obtain ⟨_, _, ⟨T7, L7, k7, n7⟩, -, X7, ⟨Lc7, hQ7, l7, y7, z7⟩, st7⟩ := Jvm.LawKit.callS X0 hx (y := (⟨"com/example/farshard/farshard/store/Murmur3", "mixBlock", "(I)I"⟩ : MethodName)) hown (mvT hZ (hw _ (List.mem_of_getElem? (i := 17) rfl))) (mvT hZ (hw _ (List.mem_of_getElem? (i := 18) rfl))) (mvT hZ (hw _ (List.mem_of_getElem? (i := 4) rfl))) (mvT hZ (hw _ (List.mem_of_getElem? (i := 19) rfl))) (by decide) (backOf (W := 1) (rm_mix l Z aT hw [] (u0 &&& (255 : Int32)) h0 n0 Z0) hZ (hw _ (List.mem_of_getElem? (i := 19) rfl)) (hw _ (List.mem_of_getElem? (i := 4) rfl)) (by decide) (by decide)) (g := (mkF m 150 #[.val (.ref a0), .val (.int (0 : Int32)), .val (.int (0 : Int32)), .val (.int (1 : Int32)), .val (.int (u0 &&& (255 : Int32)))] [(.int (u0 &&& (255 : Int32))), (.int (0 : Int32))])) rfl (by rw [hml]; rfl) (argsL := [(.int (u0 &&& (255 : Int32)))]) (rest := [(.int (0 : Int32))]) (lenOf pd1 rfl) rfl (by show 2 * 0 + _ ≤ _; exact Nat.le_of_eq rfl) (hb hby d_hs1_150) (fun _ _ => ⟨rfl, e0, (by decide : 0 + 0 ≤ _), (by decide : 0 + 0 ≤ _)⟩)
  dsimp only [Pt.U, Pt.locs, Pt.cells, Pt.slots] at X7 l7 y7 z7 st7 hQ7
  subst l7 y7 z7
  obtain ⟨rfl, N7q, eq7⟩ := hQ7
  have N7 := Fr.app N0 N7q
  refine own_go st7 ?_
  show own_Got p e below _ T7 (mkF m 153 #[.val (.ref a0), .val (.int (0 : Int32)), .val (.int (0 : Int32)), .val (.int (1 : Int32)), .val (.int (u0 &&& (255 : Int32)))] [(.int (F_mix (u0 &&& (255 : Int32)))), (.int (0 : Int32))])
  refine g_ixor X7 hx hby d_hs1_153 (rfl : 153 + 1 = 154) ?_
  refine g_istoreN X7 hx hby #[.val (.ref a0), .val (.int ((0 : Int32) ^^^ (F_mix (u0 &&& (255 : Int32))))), .val (.int (0 : Int32)), .val (.int (1 : Int32)), .val (.int (u0 &&& (255 : Int32)))] d_hs1_154 rfl (rfl : 154 + 1 = 155) ?_
  refine g_iloadN X7 hx hby d_hs1_155 rfl (rfl : 155 + 1 = 156) ?_
  refine g_aloadN X7 hx hby d_hs1_156 rfl rfl (rfl : 156 + 1 = 157) ?_
  refine g_alen X7 hx hby hZ eq7 hp0 d_hs1_157 (rfl : 157 + 1 = 158) ?_
  refine g_ixor X7 hx hby d_hs1_158 (rfl : 158 + 1 = 159) ?_
  refine g_istoreN X7 hx hby #[.val (.ref a0), .val (.int (((0 : Int32) ^^^ (F_mix (u0 &&& (255 : Int32)))) ^^^ (1 : Int32))), .val (.int (0 : Int32)), .val (.int (1 : Int32)), .val (.int (u0 &&& (255 : Int32)))] d_hs1_159 rfl (rfl : 159 + 1 = 160) ?_
  refine g_iloadN X7 hx hby d_hs1_160 rfl (rfl : 160 + 1 = 161) ?_
  refine g_iloadN X7 hx hby d_hs1_161 rfl (rfl : 161 + 1 = 162) ?_
  refine g_bipush X7 hx hby (16 : Int32) d_hs1_162 (by decide) (rfl : 162 + 2 = 164) ?_
  refine g_iushr X7 hx hby d_hs1_164 (rfl : 164 + 1 = 165) ?_
  refine g_ixor X7 hx hby d_hs1_165 (rfl : 165 + 1 = 166) ?_
  refine g_istoreN X7 hx hby #[.val (.ref a0), .val (.int ((((0 : Int32) ^^^ (F_mix (u0 &&& (255 : Int32)))) ^^^ (1 : Int32)) ^^^ (((((0 : Int32) ^^^ (F_mix (u0 &&& (255 : Int32)))) ^^^ (1 : Int32)).toUInt32 >>> ((16 : Int32) &&& 31).toUInt32).toInt32))), .val (.int (0 : Int32)), .val (.int (1 : Int32)), .val (.int (u0 &&& (255 : Int32)))] d_hs1_166 rfl (rfl : 166 + 1 = 167) ?_
  refine g_iloadN X7 hx hby d_hs1_167 rfl (rfl : 167 + 1 = 168) ?_
  refine g_ldcI X7 hx hby hZ hown (hw _ (List.mem_of_getElem? (i := 6) rfl)) d_hs1_168 (rfl : 168 + 2 = 170) ?_
  refine g_imul X7 hx hby d_hs1_170 (rfl : 170 + 1 = 171) ?_
  refine g_istoreN X7 hx hby #[.val (.ref a0), .val (.int (((((0 : Int32) ^^^ (F_mix (u0 &&& (255 : Int32)))) ^^^ (1 : Int32)) ^^^ (((((0 : Int32) ^^^ (F_mix (u0 &&& (255 : Int32)))) ^^^ (1 : Int32)).toUInt32 >>> ((16 : Int32) &&& 31).toUInt32).toInt32)) * (-2048144789 : Int32))), .val (.int (0 : Int32)), .val (.int (1 : Int32)), .val (.int (u0 &&& (255 : Int32)))] d_hs1_171 rfl (rfl : 171 + 1 = 172) ?_
  refine g_iloadN X7 hx hby d_hs1_172 rfl (rfl : 172 + 1 = 173) ?_
  refine g_iloadN X7 hx hby d_hs1_173 rfl (rfl : 173 + 1 = 174) ?_
  refine g_bipush X7 hx hby (13 : Int32) d_hs1_174 (by decide) (rfl : 174 + 2 = 176) ?_
  refine g_iushr X7 hx hby d_hs1_176 (rfl : 176 + 1 = 177) ?_
  refine g_ixor X7 hx hby d_hs1_177 (rfl : 177 + 1 = 178) ?_
  refine g_istoreN X7 hx hby #[.val (.ref a0), .val (.int ((((((0 : Int32) ^^^ (F_mix (u0 &&& (255 : Int32)))) ^^^ (1 : Int32)) ^^^ (((((0 : Int32) ^^^ (F_mix (u0 &&& (255 : Int32)))) ^^^ (1 : Int32)).toUInt32 >>> ((16 : Int32) &&& 31).toUInt32).toInt32)) * (-2048144789 : Int32)) ^^^ (((((((0 : Int32) ^^^ (F_mix (u0 &&& (255 : Int32)))) ^^^ (1 : Int32)) ^^^ (((((0 : Int32) ^^^ (F_mix (u0 &&& (255 : Int32)))) ^^^ (1 : Int32)).toUInt32 >>> ((16 : Int32) &&& 31).toUInt32).toInt32)) * (-2048144789 : Int32)).toUInt32 >>> ((13 : Int32) &&& 31).toUInt32).toInt32))), .val (.int (0 : Int32)), .val (.int (1 : Int32)), .val (.int (u0 &&& (255 : Int32)))] d_hs1_178 rfl (rfl : 178 + 1 = 179) ?_
  refine g_iloadN X7 hx hby d_hs1_179 rfl (rfl : 179 + 1 = 180) ?_
  refine g_ldcI X7 hx hby hZ hown (hw _ (List.mem_of_getElem? (i := 7) rfl)) d_hs1_180 (rfl : 180 + 2 = 182) ?_
  refine g_imul X7 hx hby d_hs1_182 (rfl : 182 + 1 = 183) ?_
  refine g_istoreN X7 hx hby #[.val (.ref a0), .val (.int (((((((0 : Int32) ^^^ (F_mix (u0 &&& (255 : Int32)))) ^^^ (1 : Int32)) ^^^ (((((0 : Int32) ^^^ (F_mix (u0 &&& (255 : Int32)))) ^^^ (1 : Int32)).toUInt32 >>> ((16 : Int32) &&& 31).toUInt32).toInt32)) * (-2048144789 : Int32)) ^^^ (((((((0 : Int32) ^^^ (F_mix (u0 &&& (255 : Int32)))) ^^^ (1 : Int32)) ^^^ (((((0 : Int32) ^^^ (F_mix (u0 &&& (255 : Int32)))) ^^^ (1 : Int32)).toUInt32 >>> ((16 : Int32) &&& 31).toUInt32).toInt32)) * (-2048144789 : Int32)).toUInt32 >>> ((13 : Int32) &&& 31).toUInt32).toInt32)) * (-1028477387 : Int32))), .val (.int (0 : Int32)), .val (.int (1 : Int32)), .val (.int (u0 &&& (255 : Int32)))] d_hs1_183 rfl (rfl : 183 + 1 = 184) ?_
  refine g_iloadN X7 hx hby d_hs1_184 rfl (rfl : 184 + 1 = 185) ?_
  refine g_iloadN X7 hx hby d_hs1_185 rfl (rfl : 185 + 1 = 186) ?_
  refine g_bipush X7 hx hby (16 : Int32) d_hs1_186 (by decide) (rfl : 186 + 2 = 188) ?_
  refine g_iushr X7 hx hby d_hs1_188 (rfl : 188 + 1 = 189) ?_
  refine g_ixor X7 hx hby d_hs1_189 (rfl : 189 + 1 = 190) ?_
  refine own_retI X7 hx hby hlk hrt d_hs1_190 (by decide) (by decide) ?_
  show Q_hs1 Z a0 kk u0 h0 n0 _ T7.heap _
  exact ⟨rfl, N7, eq7⟩
theorem d_hs2_0 : decode prog_62_method_2_code 0 = .ok (.iconst 0, 1) := by decide +kernel
theorem d_hs2_1 : decode prog_62_method_2_code 1 = .ok (.istore_n 1, 1) := by decide +kernel
theorem d_hs2_2 : decode prog_62_method_2_code 2 = .ok (.aload_n 0, 1) := by decide +kernel
theorem d_hs2_3 : decode prog_62_method_2_code 3 = .ok (.arraylength, 1) := by decide +kernel
theorem d_hs2_4 : decode prog_62_method_2_code 4 = .ok (.bipush (-4), 2) := by decide +kernel
theorem d_hs2_6 : decode prog_62_method_2_code 6 = .ok (.iand, 1) := by decide +kernel
theorem d_hs2_7 : decode prog_62_method_2_code 7 = .ok (.istore_n 2, 1) := by decide +kernel
theorem d_hs2_8 : decode prog_62_method_2_code 8 = .ok (.iconst 0, 1) := by decide +kernel
theorem d_hs2_9 : decode prog_62_method_2_code 9 = .ok (.istore_n 3, 1) := by decide +kernel
theorem d_hs2_10 : decode prog_62_method_2_code 10 = .ok (.iload_n 3, 1) := by decide +kernel
theorem d_hs2_11 : decode prog_62_method_2_code 11 = .ok (.iload_n 2, 1) := by decide +kernel
theorem d_hs2_12 : decode prog_62_method_2_code 12 = .ok (.if_icmp .ge 73, 3) := by decide +kernel
theorem d_hs2_85 : decode prog_62_method_2_code 85 = .ok (.aload_n 0, 1) := by decide +kernel
theorem d_hs2_86 : decode prog_62_method_2_code 86 = .ok (.arraylength, 1) := by decide +kernel
theorem d_hs2_87 : decode prog_62_method_2_code 87 = .ok (.iconst 3, 1) := by decide +kernel
theorem d_hs2_88 : decode prog_62_method_2_code 88 = .ok (.iand, 1) := by decide +kernel
theorem d_hs2_89 : decode prog_62_method_2_code 89 = .ok (.istore_n 3, 1) := by decide +kernel
theorem d_hs2_90 : decode prog_62_method_2_code 90 = .ok (.iload_n 3, 1) := by decide +kernel
theorem d_hs2_91 : decode prog_62_method_2_code 91 = .ok (.ifCond .le 64, 3) := by decide +kernel
theorem d_hs2_94 : decode prog_62_method_2_code 94 = .ok (.aload_n 0, 1) := by decide +kernel
theorem d_hs2_95 : decode prog_62_method_2_code 95 = .ok (.iload_n 2, 1) := by decide +kernel
theorem d_hs2_96 : decode prog_62_method_2_code 96 = .ok (.baload, 1) := by decide +kernel
theorem d_hs2_97 : decode prog_62_method_2_code 97 = .ok (.sipush 255, 3) := by decide +kernel
theorem d_hs2_100 : decode prog_62_method_2_code 100 = .ok (.iand, 1) := by decide +kernel
theorem d_hs2_101 : decode prog_62_method_2_code 101 = .ok (.istore 4, 2) := by decide +kernel
theorem d_hs2_103 : decode prog_62_method_2_code 103 = .ok (.iload_n 3, 1) := by decide +kernel
theorem d_hs2_104 : decode prog_62_method_2_code 104 = .ok (.iconst 1, 1) := by decide +kernel
theorem d_hs2_105 : decode prog_62_method_2_code 105 = .ok (.if_icmp .le 20, 3) := by decide +kernel
theorem d_hs2_108 : decode prog_62_method_2_code 108 = .ok (.iload 4, 2) := by decide +kernel
theorem d_hs2_110 : decode prog_62_method_2_code 110 = .ok (.aload_n 0, 1) := by decide +kernel
theorem d_hs2_111 : decode prog_62_method_2_code 111 = .ok (.iload_n 2, 1) := by decide +kernel
theorem d_hs2_112 : decode prog_62_method_2_code 112 = .ok (.iconst 1, 1) := by decide +kernel
theorem d_hs2_113 : decode prog_62_method_2_code 113 = .ok (.iadd, 1) := by decide +kernel
theorem d_hs2_114 : decode prog_62_method_2_code 114 = .ok (.baload, 1) := by decide +kernel
theorem d_hs2_115 : decode prog_62_method_2_code 115 = .ok (.sipush 255, 3) := by decide +kernel
theorem d_hs2_118 : decode prog_62_method_2_code 118 = .ok (.iand, 1) := by decide +kernel
theorem d_hs2_119 : decode prog_62_method_2_code 119 = .ok (.bipush 8, 2) := by decide +kernel
theorem d_hs2_121 : decode prog_62_method_2_code 121 = .ok (.ishl, 1) := by decide +kernel
theorem d_hs2_122 : decode prog_62_method_2_code 122 = .ok (.ior, 1) := by decide +kernel
theorem d_hs2_123 : decode prog_62_method_2_code 123 = .ok (.istore 4, 2) := by decide +kernel
theorem d_hs2_125 : decode prog_62_method_2_code 125 = .ok (.iload_n 3, 1) := by decide +kernel
theorem d_hs2_126 : decode prog_62_method_2_code 126 = .ok (.iconst 2, 1) := by decide +kernel
theorem d_hs2_127 : decode prog_62_method_2_code 127 = .ok (.if_icmp .le 20, 3) := by decide +kernel
theorem d_hs2_147 : decode prog_62_method_2_code 147 = .ok (.iload_n 1, 1) := by decide +kernel
theorem d_hs2_148 : decode prog_62_method_2_code 148 = .ok (.iload 4, 2) := by decide +kernel
theorem d_hs2_150 : decode prog_62_method_2_code 150 = .ok (.invokestatic 7, 3) := by decide +kernel
theorem d_hs2_153 : decode prog_62_method_2_code 153 = .ok (.ixor, 1) := by decide +kernel
theorem d_hs2_154 : decode prog_62_method_2_code 154 = .ok (.istore_n 1, 1) := by decide +kernel
theorem d_hs2_155 : decode prog_62_method_2_code 155 = .ok (.iload_n 1, 1) := by decide +kernel
theorem d_hs2_156 : decode prog_62_method_2_code 156 = .ok (.aload_n 0, 1) := by decide +kernel
theorem d_hs2_157 : decode prog_62_method_2_code 157 = .ok (.arraylength, 1) := by decide +kernel
theorem d_hs2_158 : decode prog_62_method_2_code 158 = .ok (.ixor, 1) := by decide +kernel
theorem d_hs2_159 : decode prog_62_method_2_code 159 = .ok (.istore_n 1, 1) := by decide +kernel
theorem d_hs2_160 : decode prog_62_method_2_code 160 = .ok (.iload_n 1, 1) := by decide +kernel
theorem d_hs2_161 : decode prog_62_method_2_code 161 = .ok (.iload_n 1, 1) := by decide +kernel
theorem d_hs2_162 : decode prog_62_method_2_code 162 = .ok (.bipush 16, 2) := by decide +kernel
theorem d_hs2_164 : decode prog_62_method_2_code 164 = .ok (.iushr, 1) := by decide +kernel
theorem d_hs2_165 : decode prog_62_method_2_code 165 = .ok (.ixor, 1) := by decide +kernel
theorem d_hs2_166 : decode prog_62_method_2_code 166 = .ok (.istore_n 1, 1) := by decide +kernel
theorem d_hs2_167 : decode prog_62_method_2_code 167 = .ok (.iload_n 1, 1) := by decide +kernel
theorem d_hs2_168 : decode prog_62_method_2_code 168 = .ok (.ldc 20, 2) := by decide +kernel
theorem d_hs2_170 : decode prog_62_method_2_code 170 = .ok (.imul, 1) := by decide +kernel
theorem d_hs2_171 : decode prog_62_method_2_code 171 = .ok (.istore_n 1, 1) := by decide +kernel
theorem d_hs2_172 : decode prog_62_method_2_code 172 = .ok (.iload_n 1, 1) := by decide +kernel
theorem d_hs2_173 : decode prog_62_method_2_code 173 = .ok (.iload_n 1, 1) := by decide +kernel
theorem d_hs2_174 : decode prog_62_method_2_code 174 = .ok (.bipush 13, 2) := by decide +kernel
theorem d_hs2_176 : decode prog_62_method_2_code 176 = .ok (.iushr, 1) := by decide +kernel
theorem d_hs2_177 : decode prog_62_method_2_code 177 = .ok (.ixor, 1) := by decide +kernel
theorem d_hs2_178 : decode prog_62_method_2_code 178 = .ok (.istore_n 1, 1) := by decide +kernel
theorem d_hs2_179 : decode prog_62_method_2_code 179 = .ok (.iload_n 1, 1) := by decide +kernel
theorem d_hs2_180 : decode prog_62_method_2_code 180 = .ok (.ldc 21, 2) := by decide +kernel
theorem d_hs2_182 : decode prog_62_method_2_code 182 = .ok (.imul, 1) := by decide +kernel
theorem d_hs2_183 : decode prog_62_method_2_code 183 = .ok (.istore_n 1, 1) := by decide +kernel
theorem d_hs2_184 : decode prog_62_method_2_code 184 = .ok (.iload_n 1, 1) := by decide +kernel
theorem d_hs2_185 : decode prog_62_method_2_code 185 = .ok (.iload_n 1, 1) := by decide +kernel
theorem d_hs2_186 : decode prog_62_method_2_code 186 = .ok (.bipush 16, 2) := by decide +kernel
theorem d_hs2_188 : decode prog_62_method_2_code 188 = .ok (.iushr, 1) := by decide +kernel
theorem d_hs2_189 : decode prog_62_method_2_code 189 = .ok (.ixor, 1) := by decide +kernel
theorem d_hs2_190 : decode prog_62_method_2_code 190 = .ok (.ireturn, 1) := by decide +kernel
theorem ef_hs2 (m : MethodId) (a0 : Addr) : entryFrame m #[(.ref a0)] 5 = mkF m 0 #[.val (.ref a0), .unset, .unset, .unset, .unset] [] := by first | (simp [entryFrame, mkF, argsToLocals, Value.category]; done) | rfl
def F_hs2 (u0 : Int32) (u1 : Int32) : Int32 := ((((((((0 : Int32) ^^^ (F_mix ((u0 &&& (255 : Int32)) ||| ((u1 &&& (255 : Int32)) <<< ((8 : Int32) &&& 31))))) ^^^ (2 : Int32)) ^^^ (((((0 : Int32) ^^^ (F_mix ((u0 &&& (255 : Int32)) ||| ((u1 &&& (255 : Int32)) <<< ((8 : Int32) &&& 31))))) ^^^ (2 : Int32)).toUInt32 >>> ((16 : Int32) &&& 31).toUInt32).toInt32)) * (-2048144789 : Int32)) ^^^ (((((((0 : Int32) ^^^ (F_mix ((u0 &&& (255 : Int32)) ||| ((u1 &&& (255 : Int32)) <<< ((8 : Int32) &&& 31))))) ^^^ (2 : Int32)) ^^^ (((((0 : Int32) ^^^ (F_mix ((u0 &&& (255 : Int32)) ||| ((u1 &&& (255 : Int32)) <<< ((8 : Int32) &&& 31))))) ^^^ (2 : Int32)).toUInt32 >>> ((16 : Int32) &&& 31).toUInt32).toInt32)) * (-2048144789 : Int32)).toUInt32 >>> ((13 : Int32) &&& 31).toUInt32).toInt32)) * (-1028477387 : Int32)) ^^^ (((((((((0 : Int32) ^^^ (F_mix ((u0 &&& (255 : Int32)) ||| ((u1 &&& (255 : Int32)) <<< ((8 : Int32) &&& 31))))) ^^^ (2 : Int32)) ^^^ (((((0 : Int32) ^^^ (F_mix ((u0 &&& (255 : Int32)) ||| ((u1 &&& (255 : Int32)) <<< ((8 : Int32) &&& 31))))) ^^^ (2 : Int32)).toUInt32 >>> ((16 : Int32) &&& 31).toUInt32).toInt32)) * (-2048144789 : Int32)) ^^^ (((((((0 : Int32) ^^^ (F_mix ((u0 &&& (255 : Int32)) ||| ((u1 &&& (255 : Int32)) <<< ((8 : Int32) &&& 31))))) ^^^ (2 : Int32)) ^^^ (((((0 : Int32) ^^^ (F_mix ((u0 &&& (255 : Int32)) ||| ((u1 &&& (255 : Int32)) <<< ((8 : Int32) &&& 31))))) ^^^ (2 : Int32)).toUInt32 >>> ((16 : Int32) &&& 31).toUInt32).toInt32)) * (-2048144789 : Int32)).toUInt32 >>> ((13 : Int32) &&& 31).toUInt32).toInt32)) * (-1028477387 : Int32)).toUInt32 >>> ((16 : Int32) &&& 31).toUInt32).toInt32))
def Q_hs2 (Z : State) (a0 : Addr) (kk : ClassId) (u0 : Int32) (u1 : Int32) (h0 : Heap) (n0 : Nat) (v : Option Value) (h : Heap) (L : List Loc) : Prop := v = some (.int (F_hs2 u0 u1)) ∧ Fr n0 L ∧ h = h0
set_option maxRecDepth 65536 in
set_option maxHeartbeats 40000000 in
theorem rm_hs2 (l : Launch) (Z : State) (aT : Array Value) (hw : ∀ d ∈ tables_1, d.before aT Z = true) (ws : List Jvm.Cond) (a0 : Addr) (kk : ClassId) (u0 : Int32) (u1 : Int32) (h0 : Heap) (n0 : Nat) (Z0 : n0 ≤ h0.size) (hp0 : Arv Z h0 a0 kk .byte (2 : Int32) [(.int u0), (.int u1)] (.int (0 : Int32))) :
    MetFree l (⟨"com/example/farshard/farshard/store/Murmur3", "hash32", "([B)I"⟩ : MethodName) (head1 (Jvm.Cond.code (⟨"com/example/farshard/farshard/store/Murmur3", "hash32", "([B)I"⟩ : MethodName) prog_62_method_2_code 5 (some .int) :: ws) ({ frames := 2, cells := 0, slots := 0, locals := 26 } : Room)) (fun a U => a = #[(.ref a0)] ∧ Z.Warmed39 U.vm ∧ U.heap = h0) (fun _ _ _ _ _ => True) (fun _ U o U' => ∃ v L, o = .returned v ∧ Q_hs2 Z a0 kk u0 u1 h0 n0 v U'.heap L ∧ FrameEnd U o U' L ({ frames := 2, cells := 0, slots := 0, locals := 26 } : Room).cells ({ frames := 2, cells := 0, slots := 0, locals := 26 } : Room).slots) := by
  refine MetFree.of_bodySF (plainFor_of_name pn1) hisR ?_
  intro p e s m args below meth c s₁ Bd hml0 hP hK
  obtain ⟨rfl, hZ, hh⟩ := hP
  have hx := Bd.exec
  have hby := Bd.bytes
  have hml : c.maxLocals = 5 := hml0
  have hown : s.vm.findClass "com/example/farshard/farshard/store/Murmur3" = some m.cls := findClass_of_methodNamed Bd.named
  have hnm := (name_of_methodNamed Bd.named Bd.method).1
  have hlk := Bd.notSynchronized
  have hrt := Bd.returns
  have X0 : Stand p l e ({ frames := 2, cells := 0, slots := 0, locals := 26 } : Room) s m #[(.ref a0)] below meth c s₁ [] 0 0 := Stand.of_body Bd
  have e0 : s₁.heap = h0 := by rw [← hh, Bd.state]; rfl
  have N0 := Fr.nil n0
  refine own_cast (P := own_End s (Q_hs2 Z a0 kk u0 u1 h0 n0) ({ frames := 2, cells := 0, slots := 0, locals := 26 } : Room).cells ({ frames := 2, cells := 0, slots := 0, locals := 26 } : Room).slots) (ef_hs2 m a0) ?_
  refine g_iconst X0 hx hby (0 : Int32) d_hs2_0 (by decide) (rfl : 0 + 1 = 1) ?_
  refine g_istoreN X0 hx hby #[.val (.ref a0), .val (.int (0 : Int32)), .unset, .unset, .unset] d_hs2_1 rfl (rfl : 1 + 1 = 2) ?_
  refine g_aloadN X0 hx hby d_hs2_2 rfl rfl (rfl : 2 + 1 = 3) ?_
  refine g_alen X0 hx hby hZ e0 hp0 d_hs2_3 (rfl : 3 + 1 = 4) ?_
  refine g_bipush X0 hx hby (-4 : Int32) d_hs2_4 (by decide) (rfl : 4 + 2 = 6) ?_
  refine g_iand X0 hx hby d_hs2_6 (rfl : 6 + 1 = 7) ?_
  rw [(by decide : ((2 : Int32) &&& (-4 : Int32)) = (0 : Int32))]
  refine g_istoreN X0 hx hby #[.val (.ref a0), .val (.int (0 : Int32)), .val (.int (0 : Int32)), .unset, .unset] d_hs2_7 rfl (rfl : 7 + 1 = 8) ?_
  refine g_iconst X0 hx hby (0 : Int32) d_hs2_8 (by decide) (rfl : 8 + 1 = 9) ?_
  refine g_istoreN X0 hx hby #[.val (.ref a0), .val (.int (0 : Int32)), .val (.int (0 : Int32)), .val (.int (0 : Int32)), .unset] d_hs2_9 rfl (rfl : 9 + 1 = 10) ?_
  refine g_iloadN X0 hx hby d_hs2_10 rfl (rfl : 10 + 1 = 11) ?_
  refine g_iloadN X0 hx hby d_hs2_11 rfl (rfl : 11 + 1 = 12) ?_
  refine g_icT X0 hx hby d_hs2_12 (flt (by decide : ¬ ((0 : Int32) < (0 : Int32)))).2.1 (by decide) (pc' := 85) (by decide) ?_
  refine g_aloadN X0 hx hby d_hs2_85 rfl rfl (rfl : 85 + 1 = 86) ?_
  refine g_alen X0 hx hby hZ e0 hp0 d_hs2_86 (rfl : 86 + 1 = 87) ?_
  refine g_iconst X0 hx hby (3 : Int32) d_hs2_87 (by decide) (rfl : 87 + 1 = 88) ?_
  refine g_iand X0 hx hby d_hs2_88 (rfl : 88 + 1 = 89) ?_
  rw [(by decide : ((2 : Int32) &&& (3 : Int32)) = (2 : Int32))]
  refine g_istoreN X0 hx hby #[.val (.ref a0), .val (.int (0 : Int32)), .val (.int (0 : Int32)), .val (.int (2 : Int32)), .unset] d_hs2_89 rfl (rfl : 89 + 1 = 90) ?_
  refine g_iloadN X0 hx hby d_hs2_90 rfl (rfl : 90 + 1 = 91) ?_
  refine g_ifF X0 hx hby d_hs2_91 ((if0 _ _).trans (tlt (by decide : (0 : Int32) < (2 : Int32))).2.2.2) (rfl : 91 + 3 = 94) ?_
  refine g_aloadN X0 hx hby d_hs2_94 rfl rfl (rfl : 94 + 1 = 95) ?_
  refine g_iloadN X0 hx hby d_hs2_95 rfl (rfl : 95 + 1 = 96) ?_
  refine g_baload X0 hx hby hZ e0 (v := (.int u0)) hp0 ⟨by decide, by decide⟩ rfl d_hs2_96 (rfl : 96 + 1 = 97) ?_
  refine g_sipush X0 hx hby (255 : Int32) d_hs2_97 (by decide) (rfl : 97 + 3 = 100) ?_
  refine g_iand X0 hx hby d_hs2_100 (rfl : 100 + 1 = 101) ?_
  refine g_istore X0 hx hby #[.val (.ref a0), .val (.int (0 : Int32)), .val (.int (0 : Int32)), .val (.int (2 : Int32)), .val (.int (u0 &&& (255 : Int32)))] d_hs2_101 rfl (rfl : 101 + 2 = 103) ?_
  refine g_iloadN X0 hx hby d_hs2_103 rfl (rfl : 103 + 1 = 104) ?_
  refine g_iconst X0 hx hby (1 : Int32) d_hs2_104 (by decide) (rfl : 104 + 1 = 105) ?_
  refine g_icF X0 hx hby d_hs2_105 (tlt (by decide : (1 : Int32) < (2 : Int32))).2.2.2 (rfl : 105 + 3 = 108) ?_
  refine g_iload X0 hx hby d_hs2_108 rfl (rfl : 108 + 2 = 110) ?_
  refine g_aloadN X0 hx hby d_hs2_110 rfl rfl (rfl : 110 + 1 = 111) ?_
  refine g_iloadN X0 hx hby d_hs2_111 rfl (rfl : 111 + 1 = 112) ?_
  refine g_iconst X0 hx hby (1 : Int32) d_hs2_112 (by decide) (rfl : 112 + 1 = 113) ?_
  refine g_iadd X0 hx hby d_hs2_113 (rfl : 113 + 1 = 114) ?_
  rw [(by decide : ((0 : Int32) + (1 : Int32)) = (1 : Int32))]
  refine g_baload X0 hx hby hZ e0 (v := (.int u1)) hp0 ⟨by decide, by decide⟩ rfl d_hs2_114 (rfl : 114 + 1 = 115) ?_
  refine g_sipush X0 hx hby (255 : Int32) d_hs2_115 (by decide) (rfl : 115 + 3 = 118) ?_
  refine g_iand X0 hx hby d_hs2_118 (rfl : 118 + 1 = 119) ?_
  refine g_bipush X0 hx hby (8 : Int32) d_hs2_119 (by decide) (rfl : 119 + 2 = 121) ?_
  refine g_ishl X0 hx hby d_hs2_121 (rfl : 121 + 1 = 122) ?_
  refine g_ior X0 hx hby d_hs2_122 (rfl : 122 + 1 = 123) ?_
  refine g_istore X0 hx hby #[.val (.ref a0), .val (.int (0 : Int32)), .val (.int (0 : Int32)), .val (.int (2 : Int32)), .val (.int ((u0 &&& (255 : Int32)) ||| ((u1 &&& (255 : Int32)) <<< ((8 : Int32) &&& 31))))] d_hs2_123 rfl (rfl : 123 + 2 = 125) ?_
  refine g_iloadN X0 hx hby d_hs2_125 rfl (rfl : 125 + 1 = 126) ?_
  refine g_iconst X0 hx hby (2 : Int32) d_hs2_126 (by decide) (rfl : 126 + 1 = 127) ?_
  refine g_icT X0 hx hby d_hs2_127 (flt (by decide : ¬ ((2 : Int32) < (2 : Int32)))).2.2.2 (by decide) (pc' := 147) (by decide) ?_
  refine g_iloadN X0 hx hby d_hs2_147 rfl (rfl : 147 + 1 = 148) ?_
  refine g_iload X0 hx hby d_hs2_148 rfl (rfl : 148 + 2 = 150) ?_
  obtain ⟨_, _, ⟨T8, L8, k8, n8⟩, -, X8, ⟨Lc8, hQ8, l8, y8, z8⟩, st8⟩ := Jvm.LawKit.callS X0 hx (y := (⟨"com/example/farshard/farshard/store/Murmur3", "mixBlock", "(I)I"⟩ : MethodName)) hown (mvT hZ (hw _ (List.mem_of_getElem? (i := 17) rfl))) (mvT hZ (hw _ (List.mem_of_getElem? (i := 18) rfl))) (mvT hZ (hw _ (List.mem_of_getElem? (i := 4) rfl))) (mvT hZ (hw _ (List.mem_of_getElem? (i := 19) rfl))) (by decide) (backOf (W := 1) (rm_mix l Z aT hw [] ((u0 &&& (255 : Int32)) ||| ((u1 &&& (255 : Int32)) <<< ((8 : Int32) &&& 31))) h0 n0 Z0) hZ (hw _ (List.mem_of_getElem? (i := 19) rfl)) (hw _ (List.mem_of_getElem? (i := 4) rfl)) (by decide) (by decide)) (g := (mkF m 150 #[.val (.ref a0), .val (.int (0 : Int32)), .val (.int (0 : Int32)), .val (.int (2 : Int32)), .val (.int ((u0 &&& (255 : Int32)) ||| ((u1 &&& (255 : Int32)) <<< ((8 : Int32) &&& 31))))] [(.int ((u0 &&& (255 : Int32)) ||| ((u1 &&& (255 : Int32)) <<< ((8 : Int32) &&& 31)))), (.int (0 : Int32))])) rfl (by rw [hml]; rfl) (argsL := [(.int ((u0 &&& (255 : Int32)) ||| ((u1 &&& (255 : Int32)) <<< ((8 : Int32) &&& 31))))]) (rest := [(.int (0 : Int32))]) (lenOf pd1 rfl) rfl (by show 2 * 0 + _ ≤ _; exact Nat.le_of_eq rfl) (hb hby d_hs2_150) (fun _ _ => ⟨rfl, e0, (by decide : 0 + 0 ≤ _), (by decide : 0 + 0 ≤ _)⟩)
  dsimp only [Pt.U, Pt.locs, Pt.cells, Pt.slots] at X8 l8 y8 z8 st8 hQ8
  subst l8 y8 z8
  obtain ⟨rfl, N8q, eq8⟩ := hQ8
  have N8 := Fr.app N0 N8q
  refine own_go st8 ?_
  show own_Got p e below _ T8 (mkF m 153 #[.val (.ref a0), .val (.int (0 : Int32)), .val (.int (0 : Int32)), .val (.int (2 : Int32)), .val (.int ((u0 &&& (255 : Int32)) ||| ((u1 &&& (255 : Int32)) <<< ((8 : Int32) &&& 31))))] [(.int (F_mix ((u0 &&& (255 : Int32)) ||| ((u1 &&& (255 : Int32)) <<< ((8 : Int32) &&& 31))))), (.int (0 : Int32))])
  refine g_ixor X8 hx hby d_hs2_153 (rfl : 153 + 1 = 154) ?_
  refine g_istoreN X8 hx hby #[.val (.ref a0), .val (.int ((0 : Int32) ^^^ (F_mix ((u0 &&& (255 : Int32)) ||| ((u1 &&& (255 : Int32)) <<< ((8 : Int32) &&& 31)))))), .val (.int (0 : Int32)), .val (.int (2 : Int32)), .val (.int ((u0 &&& (255 : Int32)) ||| ((u1 &&& (255 : Int32)) <<< ((8 : Int32) &&& 31))))] d_hs2_154 rfl (rfl : 154 + 1 = 155) ?_
  refine g_iloadN X8 hx hby d_hs2_155 rfl (rfl : 155 + 1 = 156) ?_
  refine g_aloadN X8 hx hby d_hs2_156 rfl rfl (rfl : 156 + 1 = 157) ?_
  refine g_alen X8 hx hby hZ eq8 hp0 d_hs2_157 (rfl : 157 + 1 = 158) ?_
  refine g_ixor X8 hx hby d_hs2_158 (rfl : 158 + 1 = 159) ?_
  refine g_istoreN X8 hx hby #[.val (.ref a0), .val (.int (((0 : Int32) ^^^ (F_mix ((u0 &&& (255 : Int32)) ||| ((u1 &&& (255 : Int32)) <<< ((8 : Int32) &&& 31))))) ^^^ (2 : Int32))), .val (.int (0 : Int32)), .val (.int (2 : Int32)), .val (.int ((u0 &&& (255 : Int32)) ||| ((u1 &&& (255 : Int32)) <<< ((8 : Int32) &&& 31))))] d_hs2_159 rfl (rfl : 159 + 1 = 160) ?_
  refine g_iloadN X8 hx hby d_hs2_160 rfl (rfl : 160 + 1 = 161) ?_
  refine g_iloadN X8 hx hby d_hs2_161 rfl (rfl : 161 + 1 = 162) ?_
  refine g_bipush X8 hx hby (16 : Int32) d_hs2_162 (by decide) (rfl : 162 + 2 = 164) ?_
  refine g_iushr X8 hx hby d_hs2_164 (rfl : 164 + 1 = 165) ?_
  refine g_ixor X8 hx hby d_hs2_165 (rfl : 165 + 1 = 166) ?_
  refine g_istoreN X8 hx hby #[.val (.ref a0), .val (.int ((((0 : Int32) ^^^ (F_mix ((u0 &&& (255 : Int32)) ||| ((u1 &&& (255 : Int32)) <<< ((8 : Int32) &&& 31))))) ^^^ (2 : Int32)) ^^^ (((((0 : Int32) ^^^ (F_mix ((u0 &&& (255 : Int32)) ||| ((u1 &&& (255 : Int32)) <<< ((8 : Int32) &&& 31))))) ^^^ (2 : Int32)).toUInt32 >>> ((16 : Int32) &&& 31).toUInt32).toInt32))), .val (.int (0 : Int32)), .val (.int (2 : Int32)), .val (.int ((u0 &&& (255 : Int32)) ||| ((u1 &&& (255 : Int32)) <<< ((8 : Int32) &&& 31))))] d_hs2_166 rfl (rfl : 166 + 1 = 167) ?_
  refine g_iloadN X8 hx hby d_hs2_167 rfl (rfl : 167 + 1 = 168) ?_
  refine g_ldcI X8 hx hby hZ hown (hw _ (List.mem_of_getElem? (i := 6) rfl)) d_hs2_168 (rfl : 168 + 2 = 170) ?_
  refine g_imul X8 hx hby d_hs2_170 (rfl : 170 + 1 = 171) ?_
  refine g_istoreN X8 hx hby #[.val (.ref a0), .val (.int (((((0 : Int32) ^^^ (F_mix ((u0 &&& (255 : Int32)) ||| ((u1 &&& (255 : Int32)) <<< ((8 : Int32) &&& 31))))) ^^^ (2 : Int32)) ^^^ (((((0 : Int32) ^^^ (F_mix ((u0 &&& (255 : Int32)) ||| ((u1 &&& (255 : Int32)) <<< ((8 : Int32) &&& 31))))) ^^^ (2 : Int32)).toUInt32 >>> ((16 : Int32) &&& 31).toUInt32).toInt32)) * (-2048144789 : Int32))), .val (.int (0 : Int32)), .val (.int (2 : Int32)), .val (.int ((u0 &&& (255 : Int32)) ||| ((u1 &&& (255 : Int32)) <<< ((8 : Int32) &&& 31))))] d_hs2_171 rfl (rfl : 171 + 1 = 172) ?_
  refine g_iloadN X8 hx hby d_hs2_172 rfl (rfl : 172 + 1 = 173) ?_
  refine g_iloadN X8 hx hby d_hs2_173 rfl (rfl : 173 + 1 = 174) ?_
  refine g_bipush X8 hx hby (13 : Int32) d_hs2_174 (by decide) (rfl : 174 + 2 = 176) ?_
  refine g_iushr X8 hx hby d_hs2_176 (rfl : 176 + 1 = 177) ?_
  refine g_ixor X8 hx hby d_hs2_177 (rfl : 177 + 1 = 178) ?_
  refine g_istoreN X8 hx hby #[.val (.ref a0), .val (.int ((((((0 : Int32) ^^^ (F_mix ((u0 &&& (255 : Int32)) ||| ((u1 &&& (255 : Int32)) <<< ((8 : Int32) &&& 31))))) ^^^ (2 : Int32)) ^^^ (((((0 : Int32) ^^^ (F_mix ((u0 &&& (255 : Int32)) ||| ((u1 &&& (255 : Int32)) <<< ((8 : Int32) &&& 31))))) ^^^ (2 : Int32)).toUInt32 >>> ((16 : Int32) &&& 31).toUInt32).toInt32)) * (-2048144789 : Int32)) ^^^ (((((((0 : Int32) ^^^ (F_mix ((u0 &&& (255 : Int32)) ||| ((u1 &&& (255 : Int32)) <<< ((8 : Int32) &&& 31))))) ^^^ (2 : Int32)) ^^^ (((((0 : Int32) ^^^ (F_mix ((u0 &&& (255 : Int32)) ||| ((u1 &&& (255 : Int32)) <<< ((8 : Int32) &&& 31))))) ^^^ (2 : Int32)).toUInt32 >>> ((16 : Int32) &&& 31).toUInt32).toInt32)) * (-2048144789 : Int32)).toUInt32 >>> ((13 : Int32) &&& 31).toUInt32).toInt32))), .val (.int (0 : Int32)), .val (.int (2 : Int32)), .val (.int ((u0 &&& (255 : Int32)) ||| ((u1 &&& (255 : Int32)) <<< ((8 : Int32) &&& 31))))] d_hs2_178 rfl (rfl : 178 + 1 = 179) ?_
  refine g_iloadN X8 hx hby d_hs2_179 rfl (rfl : 179 + 1 = 180) ?_
  refine g_ldcI X8 hx hby hZ hown (hw _ (List.mem_of_getElem? (i := 7) rfl)) d_hs2_180 (rfl : 180 + 2 = 182) ?_
  refine g_imul X8 hx hby d_hs2_182 (rfl : 182 + 1 = 183) ?_
  refine g_istoreN X8 hx hby #[.val (.ref a0), .val (.int (((((((0 : Int32) ^^^ (F_mix ((u0 &&& (255 : Int32)) ||| ((u1 &&& (255 : Int32)) <<< ((8 : Int32) &&& 31))))) ^^^ (2 : Int32)) ^^^ (((((0 : Int32) ^^^ (F_mix ((u0 &&& (255 : Int32)) ||| ((u1 &&& (255 : Int32)) <<< ((8 : Int32) &&& 31))))) ^^^ (2 : Int32)).toUInt32 >>> ((16 : Int32) &&& 31).toUInt32).toInt32)) * (-2048144789 : Int32)) ^^^ (((((((0 : Int32) ^^^ (F_mix ((u0 &&& (255 : Int32)) ||| ((u1 &&& (255 : Int32)) <<< ((8 : Int32) &&& 31))))) ^^^ (2 : Int32)) ^^^ (((((0 : Int32) ^^^ (F_mix ((u0 &&& (255 : Int32)) ||| ((u1 &&& (255 : Int32)) <<< ((8 : Int32) &&& 31))))) ^^^ (2 : Int32)).toUInt32 >>> ((16 : Int32) &&& 31).toUInt32).toInt32)) * (-2048144789 : Int32)).toUInt32 >>> ((13 : Int32) &&& 31).toUInt32).toInt32)) * (-1028477387 : Int32))), .val (.int (0 : Int32)), .val (.int (2 : Int32)), .val (.int ((u0 &&& (255 : Int32)) ||| ((u1 &&& (255 : Int32)) <<< ((8 : Int32) &&& 31))))] d_hs2_183 rfl (rfl : 183 + 1 = 184) ?_
  refine g_iloadN X8 hx hby d_hs2_184 rfl (rfl : 184 + 1 = 185) ?_
  refine g_iloadN X8 hx hby d_hs2_185 rfl (rfl : 185 + 1 = 186) ?_
  refine g_bipush X8 hx hby (16 : Int32) d_hs2_186 (by decide) (rfl : 186 + 2 = 188) ?_
  refine g_iushr X8 hx hby d_hs2_188 (rfl : 188 + 1 = 189) ?_
  refine g_ixor X8 hx hby d_hs2_189 (rfl : 189 + 1 = 190) ?_
  refine own_retI X8 hx hby hlk hrt d_hs2_190 (by decide) (by decide) ?_
  show Q_hs2 Z a0 kk u0 u1 h0 n0 _ T8.heap _
  exact ⟨rfl, N8, eq8⟩
theorem d_hs3_0 : decode prog_62_method_2_code 0 = .ok (.iconst 0, 1) := by decide +kernel
theorem d_hs3_1 : decode prog_62_method_2_code 1 = .ok (.istore_n 1, 1) := by decide +kernel
theorem d_hs3_2 : decode prog_62_method_2_code 2 = .ok (.aload_n 0, 1) := by decide +kernel
theorem d_hs3_3 : decode prog_62_method_2_code 3 = .ok (.arraylength, 1) := by decide +kernel
theorem d_hs3_4 : decode prog_62_method_2_code 4 = .ok (.bipush (-4), 2) := by decide +kernel
theorem d_hs3_6 : decode prog_62_method_2_code 6 = .ok (.iand, 1) := by decide +kernel
theorem d_hs3_7 : decode prog_62_method_2_code 7 = .ok (.istore_n 2, 1) := by decide +kernel
theorem d_hs3_8 : decode prog_62_method_2_code 8 = .ok (.iconst 0, 1) := by decide +kernel
theorem d_hs3_9 : decode prog_62_method_2_code 9 = .ok (.istore_n 3, 1) := by decide +kernel
theorem d_hs3_10 : decode prog_62_method_2_code 10 = .ok (.iload_n 3, 1) := by decide +kernel
theorem d_hs3_11 : decode prog_62_method_2_code 11 = .ok (.iload_n 2, 1) := by decide +kernel
theorem d_hs3_12 : decode prog_62_method_2_code 12 = .ok (.if_icmp .ge 73, 3) := by decide +kernel
theorem d_hs3_85 : decode prog_62_method_2_code 85 = .ok (.aload_n 0, 1) := by decide +kernel
theorem d_hs3_86 : decode prog_62_method_2_code 86 = .ok (.arraylength, 1) := by decide +kernel
theorem d_hs3_87 : decode prog_62_method_2_code 87 = .ok (.iconst 3, 1) := by decide +kernel
theorem d_hs3_88 : decode prog_62_method_2_code 88 = .ok (.iand, 1) := by decide +kernel
theorem d_hs3_89 : decode prog_62_method_2_code 89 = .ok (.istore_n 3, 1) := by decide +kernel
theorem d_hs3_90 : decode prog_62_method_2_code 90 = .ok (.iload_n 3, 1) := by decide +kernel
theorem d_hs3_91 : decode prog_62_method_2_code 91 = .ok (.ifCond .le 64, 3) := by decide +kernel
theorem d_hs3_94 : decode prog_62_method_2_code 94 = .ok (.aload_n 0, 1) := by decide +kernel
theorem d_hs3_95 : decode prog_62_method_2_code 95 = .ok (.iload_n 2, 1) := by decide +kernel
theorem d_hs3_96 : decode prog_62_method_2_code 96 = .ok (.baload, 1) := by decide +kernel
theorem d_hs3_97 : decode prog_62_method_2_code 97 = .ok (.sipush 255, 3) := by decide +kernel
theorem d_hs3_100 : decode prog_62_method_2_code 100 = .ok (.iand, 1) := by decide +kernel
theorem d_hs3_101 : decode prog_62_method_2_code 101 = .ok (.istore 4, 2) := by decide +kernel
theorem d_hs3_103 : decode prog_62_method_2_code 103 = .ok (.iload_n 3, 1) := by decide +kernel
theorem d_hs3_104 : decode prog_62_method_2_code 104 = .ok (.iconst 1, 1) := by decide +kernel
theorem d_hs3_105 : decode prog_62_method_2_code 105 = .ok (.if_icmp .le 20, 3) := by decide +kernel
theorem d_hs3_108 : decode prog_62_method_2_code 108 = .ok (.iload 4, 2) := by decide +kernel
theorem d_hs3_110 : decode prog_62_method_2_code 110 = .ok (.aload_n 0, 1) := by decide +kernel
theorem d_hs3_111 : decode prog_62_method_2_code 111 = .ok (.iload_n 2, 1) := by decide +kernel
theorem d_hs3_112 : decode prog_62_method_2_code 112 = .ok (.iconst 1, 1) := by decide +kernel
theorem d_hs3_113 : decode prog_62_method_2_code 113 = .ok (.iadd, 1) := by decide +kernel
theorem d_hs3_114 : decode prog_62_method_2_code 114 = .ok (.baload, 1) := by decide +kernel
theorem d_hs3_115 : decode prog_62_method_2_code 115 = .ok (.sipush 255, 3) := by decide +kernel
theorem d_hs3_118 : decode prog_62_method_2_code 118 = .ok (.iand, 1) := by decide +kernel
theorem d_hs3_119 : decode prog_62_method_2_code 119 = .ok (.bipush 8, 2) := by decide +kernel
theorem d_hs3_121 : decode prog_62_method_2_code 121 = .ok (.ishl, 1) := by decide +kernel
theorem d_hs3_122 : decode prog_62_method_2_code 122 = .ok (.ior, 1) := by decide +kernel
theorem d_hs3_123 : decode prog_62_method_2_code 123 = .ok (.istore 4, 2) := by decide +kernel
theorem d_hs3_125 : decode prog_62_method_2_code 125 = .ok (.iload_n 3, 1) := by decide +kernel
theorem d_hs3_126 : decode prog_62_method_2_code 126 = .ok (.iconst 2, 1) := by decide +kernel
theorem d_hs3_127 : decode prog_62_method_2_code 127 = .ok (.if_icmp .le 20, 3) := by decide +kernel
theorem d_hs3_130 : decode prog_62_method_2_code 130 = .ok (.iload 4, 2) := by decide +kernel
theorem d_hs3_132 : decode prog_62_method_2_code 132 = .ok (.aload_n 0, 1) := by decide +kernel
theorem d_hs3_133 : decode prog_62_method_2_code 133 = .ok (.iload_n 2, 1) := by decide +kernel
theorem d_hs3_134 : decode prog_62_method_2_code 134 = .ok (.iconst 2, 1) := by decide +kernel
theorem d_hs3_135 : decode prog_62_method_2_code 135 = .ok (.iadd, 1) := by decide +kernel
theorem d_hs3_136 : decode prog_62_method_2_code 136 = .ok (.baload, 1) := by decide +kernel
theorem d_hs3_137 : decode prog_62_method_2_code 137 = .ok (.sipush 255, 3) := by decide +kernel
theorem d_hs3_140 : decode prog_62_method_2_code 140 = .ok (.iand, 1) := by decide +kernel
theorem d_hs3_141 : decode prog_62_method_2_code 141 = .ok (.bipush 16, 2) := by decide +kernel
theorem d_hs3_143 : decode prog_62_method_2_code 143 = .ok (.ishl, 1) := by decide +kernel
theorem d_hs3_144 : decode prog_62_method_2_code 144 = .ok (.ior, 1) := by decide +kernel
theorem d_hs3_145 : decode prog_62_method_2_code 145 = .ok (.istore 4, 2) := by decide +kernel
theorem d_hs3_147 : decode prog_62_method_2_code 147 = .ok (.iload_n 1, 1) := by decide +kernel
theorem d_hs3_148 : decode prog_62_method_2_code 148 = .ok (.iload 4, 2) := by decide +kernel
theorem d_hs3_150 : decode prog_62_method_2_code 150 = .ok (.invokestatic 7, 3) := by decide +kernel
theorem d_hs3_153 : decode prog_62_method_2_code 153 = .ok (.ixor, 1) := by decide +kernel
theorem d_hs3_154 : decode prog_62_method_2_code 154 = .ok (.istore_n 1, 1) := by decide +kernel
theorem d_hs3_155 : decode prog_62_method_2_code 155 = .ok (.iload_n 1, 1) := by decide +kernel
theorem d_hs3_156 : decode prog_62_method_2_code 156 = .ok (.aload_n 0, 1) := by decide +kernel
theorem d_hs3_157 : decode prog_62_method_2_code 157 = .ok (.arraylength, 1) := by decide +kernel
theorem d_hs3_158 : decode prog_62_method_2_code 158 = .ok (.ixor, 1) := by decide +kernel
theorem d_hs3_159 : decode prog_62_method_2_code 159 = .ok (.istore_n 1, 1) := by decide +kernel
theorem d_hs3_160 : decode prog_62_method_2_code 160 = .ok (.iload_n 1, 1) := by decide +kernel
theorem d_hs3_161 : decode prog_62_method_2_code 161 = .ok (.iload_n 1, 1) := by decide +kernel
theorem d_hs3_162 : decode prog_62_method_2_code 162 = .ok (.bipush 16, 2) := by decide +kernel
theorem d_hs3_164 : decode prog_62_method_2_code 164 = .ok (.iushr, 1) := by decide +kernel
theorem d_hs3_165 : decode prog_62_method_2_code 165 = .ok (.ixor, 1) := by decide +kernel
theorem d_hs3_166 : decode prog_62_method_2_code 166 = .ok (.istore_n 1, 1) := by decide +kernel
theorem d_hs3_167 : decode prog_62_method_2_code 167 = .ok (.iload_n 1, 1) := by decide +kernel
theorem d_hs3_168 : decode prog_62_method_2_code 168 = .ok (.ldc 20, 2) := by decide +kernel
theorem d_hs3_170 : decode prog_62_method_2_code 170 = .ok (.imul, 1) := by decide +kernel
theorem d_hs3_171 : decode prog_62_method_2_code 171 = .ok (.istore_n 1, 1) := by decide +kernel
theorem d_hs3_172 : decode prog_62_method_2_code 172 = .ok (.iload_n 1, 1) := by decide +kernel
theorem d_hs3_173 : decode prog_62_method_2_code 173 = .ok (.iload_n 1, 1) := by decide +kernel
theorem d_hs3_174 : decode prog_62_method_2_code 174 = .ok (.bipush 13, 2) := by decide +kernel
theorem d_hs3_176 : decode prog_62_method_2_code 176 = .ok (.iushr, 1) := by decide +kernel
theorem d_hs3_177 : decode prog_62_method_2_code 177 = .ok (.ixor, 1) := by decide +kernel
theorem d_hs3_178 : decode prog_62_method_2_code 178 = .ok (.istore_n 1, 1) := by decide +kernel
theorem d_hs3_179 : decode prog_62_method_2_code 179 = .ok (.iload_n 1, 1) := by decide +kernel
theorem d_hs3_180 : decode prog_62_method_2_code 180 = .ok (.ldc 21, 2) := by decide +kernel
theorem d_hs3_182 : decode prog_62_method_2_code 182 = .ok (.imul, 1) := by decide +kernel
theorem d_hs3_183 : decode prog_62_method_2_code 183 = .ok (.istore_n 1, 1) := by decide +kernel
theorem d_hs3_184 : decode prog_62_method_2_code 184 = .ok (.iload_n 1, 1) := by decide +kernel
theorem d_hs3_185 : decode prog_62_method_2_code 185 = .ok (.iload_n 1, 1) := by decide +kernel
theorem d_hs3_186 : decode prog_62_method_2_code 186 = .ok (.bipush 16, 2) := by decide +kernel
theorem d_hs3_188 : decode prog_62_method_2_code 188 = .ok (.iushr, 1) := by decide +kernel
theorem d_hs3_189 : decode prog_62_method_2_code 189 = .ok (.ixor, 1) := by decide +kernel
theorem d_hs3_190 : decode prog_62_method_2_code 190 = .ok (.ireturn, 1) := by decide +kernel
theorem ef_hs3 (m : MethodId) (a0 : Addr) : entryFrame m #[(.ref a0)] 5 = mkF m 0 #[.val (.ref a0), .unset, .unset, .unset, .unset] [] := by first | (simp [entryFrame, mkF, argsToLocals, Value.category]; done) | rfl
def F_hs3 (u0 : Int32) (u1 : Int32) (u2 : Int32) : Int32 := ((((((((0 : Int32) ^^^ (F_mix (((u0 &&& (255 : Int32)) ||| ((u1 &&& (255 : Int32)) <<< ((8 : Int32) &&& 31))) ||| ((u2 &&& (255 : Int32)) <<< ((16 : Int32) &&& 31))))) ^^^ (3 : Int32)) ^^^ (((((0 : Int32) ^^^ (F_mix (((u0 &&& (255 : Int32)) ||| ((u1 &&& (255 : Int32)) <<< ((8 : Int32) &&& 31))) ||| ((u2 &&& (255 : Int32)) <<< ((16 : Int32) &&& 31))))) ^^^ (3 : Int32)).toUInt32 >>> ((16 : Int32) &&& 31).toUInt32).toInt32)) * (-2048144789 : Int32)) ^^^ (((((((0 : Int32) ^^^ (F_mix (((u0 &&& (255 : Int32)) ||| ((u1 &&& (255 : Int32)) <<< ((8 : Int32) &&& 31))) ||| ((u2 &&& (255 : Int32)) <<< ((16 : Int32) &&& 31))))) ^^^ (3 : Int32)) ^^^ (((((0 : Int32) ^^^ (F_mix (((u0 &&& (255 : Int32)) ||| ((u1 &&& (255 : Int32)) <<< ((8 : Int32) &&& 31))) ||| ((u2 &&& (255 : Int32)) <<< ((16 : Int32) &&& 31))))) ^^^ (3 : Int32)).toUInt32 >>> ((16 : Int32) &&& 31).toUInt32).toInt32)) * (-2048144789 : Int32)).toUInt32 >>> ((13 : Int32) &&& 31).toUInt32).toInt32)) * (-1028477387 : Int32)) ^^^ (((((((((0 : Int32) ^^^ (F_mix (((u0 &&& (255 : Int32)) ||| ((u1 &&& (255 : Int32)) <<< ((8 : Int32) &&& 31))) ||| ((u2 &&& (255 : Int32)) <<< ((16 : Int32) &&& 31))))) ^^^ (3 : Int32)) ^^^ (((((0 : Int32) ^^^ (F_mix (((u0 &&& (255 : Int32)) ||| ((u1 &&& (255 : Int32)) <<< ((8 : Int32) &&& 31))) ||| ((u2 &&& (255 : Int32)) <<< ((16 : Int32) &&& 31))))) ^^^ (3 : Int32)).toUInt32 >>> ((16 : Int32) &&& 31).toUInt32).toInt32)) * (-2048144789 : Int32)) ^^^ (((((((0 : Int32) ^^^ (F_mix (((u0 &&& (255 : Int32)) ||| ((u1 &&& (255 : Int32)) <<< ((8 : Int32) &&& 31))) ||| ((u2 &&& (255 : Int32)) <<< ((16 : Int32) &&& 31))))) ^^^ (3 : Int32)) ^^^ (((((0 : Int32) ^^^ (F_mix (((u0 &&& (255 : Int32)) ||| ((u1 &&& (255 : Int32)) <<< ((8 : Int32) &&& 31))) ||| ((u2 &&& (255 : Int32)) <<< ((16 : Int32) &&& 31))))) ^^^ (3 : Int32)).toUInt32 >>> ((16 : Int32) &&& 31).toUInt32).toInt32)) * (-2048144789 : Int32)).toUInt32 >>> ((13 : Int32) &&& 31).toUInt32).toInt32)) * (-1028477387 : Int32)).toUInt32 >>> ((16 : Int32) &&& 31).toUInt32).toInt32))
def Q_hs3 (Z : State) (a0 : Addr) (kk : ClassId) (u0 : Int32) (u1 : Int32) (u2 : Int32) (h0 : Heap) (n0 : Nat) (v : Option Value) (h : Heap) (L : List Loc) : Prop := v = some (.int (F_hs3 u0 u1 u2)) ∧ Fr n0 L ∧ h = h0
set_option maxRecDepth 65536 in
set_option maxHeartbeats 40000000 in
theorem rm_hs3 (l : Launch) (Z : State) (aT : Array Value) (hw : ∀ d ∈ tables_1, d.before aT Z = true) (ws : List Jvm.Cond) (a0 : Addr) (kk : ClassId) (u0 : Int32) (u1 : Int32) (u2 : Int32) (h0 : Heap) (n0 : Nat) (Z0 : n0 ≤ h0.size) (hp0 : Arv Z h0 a0 kk .byte (3 : Int32) [(.int u0), (.int u1), (.int u2)] (.int (0 : Int32))) :
    MetFree l (⟨"com/example/farshard/farshard/store/Murmur3", "hash32", "([B)I"⟩ : MethodName) (head1 (Jvm.Cond.code (⟨"com/example/farshard/farshard/store/Murmur3", "hash32", "([B)I"⟩ : MethodName) prog_62_method_2_code 5 (some .int) :: ws) ({ frames := 2, cells := 0, slots := 0, locals := 26 } : Room)) (fun a U => a = #[(.ref a0)] ∧ Z.Warmed39 U.vm ∧ U.heap = h0) (fun _ _ _ _ _ => True) (fun _ U o U' => ∃ v L, o = .returned v ∧ Q_hs3 Z a0 kk u0 u1 u2 h0 n0 v U'.heap L ∧ FrameEnd U o U' L ({ frames := 2, cells := 0, slots := 0, locals := 26 } : Room).cells ({ frames := 2, cells := 0, slots := 0, locals := 26 } : Room).slots) := by
  refine MetFree.of_bodySF (plainFor_of_name pn1) hisR ?_
  intro p e s m args below meth c s₁ Bd hml0 hP hK
  obtain ⟨rfl, hZ, hh⟩ := hP
  have hx := Bd.exec
  have hby := Bd.bytes
  have hml : c.maxLocals = 5 := hml0
  have hown : s.vm.findClass "com/example/farshard/farshard/store/Murmur3" = some m.cls := findClass_of_methodNamed Bd.named
  have hnm := (name_of_methodNamed Bd.named Bd.method).1
  have hlk := Bd.notSynchronized
  have hrt := Bd.returns
  have X0 : Stand p l e ({ frames := 2, cells := 0, slots := 0, locals := 26 } : Room) s m #[(.ref a0)] below meth c s₁ [] 0 0 := Stand.of_body Bd
  have e0 : s₁.heap = h0 := by rw [← hh, Bd.state]; rfl
  have N0 := Fr.nil n0
  refine own_cast (P := own_End s (Q_hs3 Z a0 kk u0 u1 u2 h0 n0) ({ frames := 2, cells := 0, slots := 0, locals := 26 } : Room).cells ({ frames := 2, cells := 0, slots := 0, locals := 26 } : Room).slots) (ef_hs3 m a0) ?_
  refine g_iconst X0 hx hby (0 : Int32) d_hs3_0 (by decide) (rfl : 0 + 1 = 1) ?_
  refine g_istoreN X0 hx hby #[.val (.ref a0), .val (.int (0 : Int32)), .unset, .unset, .unset] d_hs3_1 rfl (rfl : 1 + 1 = 2) ?_
  refine g_aloadN X0 hx hby d_hs3_2 rfl rfl (rfl : 2 + 1 = 3) ?_
  refine g_alen X0 hx hby hZ e0 hp0 d_hs3_3 (rfl : 3 + 1 = 4) ?_
  refine g_bipush X0 hx hby (-4 : Int32) d_hs3_4 (by decide) (rfl : 4 + 2 = 6) ?_
  refine g_iand X0 hx hby d_hs3_6 (rfl : 6 + 1 = 7) ?_
  rw [(by decide : ((3 : Int32) &&& (-4 : Int32)) = (0 : Int32))]
  refine g_istoreN X0 hx hby #[.val (.ref a0), .val (.int (0 : Int32)), .val (.int (0 : Int32)), .unset, .unset] d_hs3_7 rfl (rfl : 7 + 1 = 8) ?_
  refine g_iconst X0 hx hby (0 : Int32) d_hs3_8 (by decide) (rfl : 8 + 1 = 9) ?_
  refine g_istoreN X0 hx hby #[.val (.ref a0), .val (.int (0 : Int32)), .val (.int (0 : Int32)), .val (.int (0 : Int32)), .unset] d_hs3_9 rfl (rfl : 9 + 1 = 10) ?_
  refine g_iloadN X0 hx hby d_hs3_10 rfl (rfl : 10 + 1 = 11) ?_
  refine g_iloadN X0 hx hby d_hs3_11 rfl (rfl : 11 + 1 = 12) ?_
  refine g_icT X0 hx hby d_hs3_12 (flt (by decide : ¬ ((0 : Int32) < (0 : Int32)))).2.1 (by decide) (pc' := 85) (by decide) ?_
  refine g_aloadN X0 hx hby d_hs3_85 rfl rfl (rfl : 85 + 1 = 86) ?_
  refine g_alen X0 hx hby hZ e0 hp0 d_hs3_86 (rfl : 86 + 1 = 87) ?_
  refine g_iconst X0 hx hby (3 : Int32) d_hs3_87 (by decide) (rfl : 87 + 1 = 88) ?_
  refine g_iand X0 hx hby d_hs3_88 (rfl : 88 + 1 = 89) ?_
  rw [(by decide : ((3 : Int32) &&& (3 : Int32)) = (3 : Int32))]
  refine g_istoreN X0 hx hby #[.val (.ref a0), .val (.int (0 : Int32)), .val (.int (0 : Int32)), .val (.int (3 : Int32)), .unset] d_hs3_89 rfl (rfl : 89 + 1 = 90) ?_
  refine g_iloadN X0 hx hby d_hs3_90 rfl (rfl : 90 + 1 = 91) ?_
  refine g_ifF X0 hx hby d_hs3_91 ((if0 _ _).trans (tlt (by decide : (0 : Int32) < (3 : Int32))).2.2.2) (rfl : 91 + 3 = 94) ?_
  refine g_aloadN X0 hx hby d_hs3_94 rfl rfl (rfl : 94 + 1 = 95) ?_
  refine g_iloadN X0 hx hby d_hs3_95 rfl (rfl : 95 + 1 = 96) ?_
  refine g_baload X0 hx hby hZ e0 (v := (.int u0)) hp0 ⟨by decide, by decide⟩ rfl d_hs3_96 (rfl : 96 + 1 = 97) ?_
  refine g_sipush X0 hx hby (255 : Int32) d_hs3_97 (by decide) (rfl : 97 + 3 = 100) ?_
  refine g_iand X0 hx hby d_hs3_100 (rfl : 100 + 1 = 101) ?_
  refine g_istore X0 hx hby #[.val (.ref a0), .val (.int (0 : Int32)), .val (.int (0 : Int32)), .val (.int (3 : Int32)), .val (.int (u0 &&& (255 : Int32)))] d_hs3_101 rfl (rfl : 101 + 2 = 103) ?_
  refine g_iloadN X0 hx hby d_hs3_103 rfl (rfl : 103 + 1 = 104) ?_
  refine g_iconst X0 hx hby (1 : Int32) d_hs3_104 (by decide) (rfl : 104 + 1 = 105) ?_
  refine g_icF X0 hx hby d_hs3_105 (tlt (by decide : (1 : Int32) < (3 : Int32))).2.2.2 (rfl : 105 + 3 = 108) ?_
  refine g_iload X0 hx hby d_hs3_108 rfl (rfl : 108 + 2 = 110) ?_
  refine g_aloadN X0 hx hby d_hs3_110 rfl rfl (rfl : 110 + 1 = 111) ?_
  refine g_iloadN X0 hx hby d_hs3_111 rfl (rfl : 111 + 1 = 112) ?_
  refine g_iconst X0 hx hby (1 : Int32) d_hs3_112 (by decide) (rfl : 112 + 1 = 113) ?_
  refine g_iadd X0 hx hby d_hs3_113 (rfl : 113 + 1 = 114) ?_
  rw [(by decide : ((0 : Int32) + (1 : Int32)) = (1 : Int32))]
  refine g_baload X0 hx hby hZ e0 (v := (.int u1)) hp0 ⟨by decide, by decide⟩ rfl d_hs3_114 (rfl : 114 + 1 = 115) ?_
  refine g_sipush X0 hx hby (255 : Int32) d_hs3_115 (by decide) (rfl : 115 + 3 = 118) ?_
  refine g_iand X0 hx hby d_hs3_118 (rfl : 118 + 1 = 119) ?_
  refine g_bipush X0 hx hby (8 : Int32) d_hs3_119 (by decide) (rfl : 119 + 2 = 121) ?_
  refine g_ishl X0 hx hby d_hs3_121 (rfl : 121 + 1 = 122) ?_
  refine g_ior X0 hx hby d_hs3_122 (rfl : 122 + 1 = 123) ?_
  refine g_istore X0 hx hby #[.val (.ref a0), .val (.int (0 : Int32)), .val (.int (0 : Int32)), .val (.int (3 : Int32)), .val (.int ((u0 &&& (255 : Int32)) ||| ((u1 &&& (255 : Int32)) <<< ((8 : Int32) &&& 31))))] d_hs3_123 rfl (rfl : 123 + 2 = 125) ?_
  refine g_iloadN X0 hx hby d_hs3_125 rfl (rfl : 125 + 1 = 126) ?_
  refine g_iconst X0 hx hby (2 : Int32) d_hs3_126 (by decide) (rfl : 126 + 1 = 127) ?_
  refine g_icF X0 hx hby d_hs3_127 (tlt (by decide : (2 : Int32) < (3 : Int32))).2.2.2 (rfl : 127 + 3 = 130) ?_
  refine g_iload X0 hx hby d_hs3_130 rfl (rfl : 130 + 2 = 132) ?_
  refine g_aloadN X0 hx hby d_hs3_132 rfl rfl (rfl : 132 + 1 = 133) ?_
  refine g_iloadN X0 hx hby d_hs3_133 rfl (rfl : 133 + 1 = 134) ?_
  refine g_iconst X0 hx hby (2 : Int32) d_hs3_134 (by decide) (rfl : 134 + 1 = 135) ?_
  refine g_iadd X0 hx hby d_hs3_135 (rfl : 135 + 1 = 136) ?_
  rw [(by decide : ((0 : Int32) + (2 : Int32)) = (2 : Int32))]
  refine g_baload X0 hx hby hZ e0 (v := (.int u2)) hp0 ⟨by decide, by decide⟩ rfl d_hs3_136 (rfl : 136 + 1 = 137) ?_
  refine g_sipush X0 hx hby (255 : Int32) d_hs3_137 (by decide) (rfl : 137 + 3 = 140) ?_
  refine g_iand X0 hx hby d_hs3_140 (rfl : 140 + 1 = 141) ?_
  refine g_bipush X0 hx hby (16 : Int32) d_hs3_141 (by decide) (rfl : 141 + 2 = 143) ?_
  refine g_ishl X0 hx hby d_hs3_143 (rfl : 143 + 1 = 144) ?_
  refine g_ior X0 hx hby d_hs3_144 (rfl : 144 + 1 = 145) ?_
  refine g_istore X0 hx hby #[.val (.ref a0), .val (.int (0 : Int32)), .val (.int (0 : Int32)), .val (.int (3 : Int32)), .val (.int (((u0 &&& (255 : Int32)) ||| ((u1 &&& (255 : Int32)) <<< ((8 : Int32) &&& 31))) ||| ((u2 &&& (255 : Int32)) <<< ((16 : Int32) &&& 31))))] d_hs3_145 rfl (rfl : 145 + 2 = 147) ?_
  refine g_iloadN X0 hx hby d_hs3_147 rfl (rfl : 147 + 1 = 148) ?_
  refine g_iload X0 hx hby d_hs3_148 rfl (rfl : 148 + 2 = 150) ?_
  obtain ⟨_, _, ⟨T9, L9, k9, n9⟩, -, X9, ⟨Lc9, hQ9, l9, y9, z9⟩, st9⟩ := Jvm.LawKit.callS X0 hx (y := (⟨"com/example/farshard/farshard/store/Murmur3", "mixBlock", "(I)I"⟩ : MethodName)) hown (mvT hZ (hw _ (List.mem_of_getElem? (i := 17) rfl))) (mvT hZ (hw _ (List.mem_of_getElem? (i := 18) rfl))) (mvT hZ (hw _ (List.mem_of_getElem? (i := 4) rfl))) (mvT hZ (hw _ (List.mem_of_getElem? (i := 19) rfl))) (by decide) (backOf (W := 1) (rm_mix l Z aT hw [] (((u0 &&& (255 : Int32)) ||| ((u1 &&& (255 : Int32)) <<< ((8 : Int32) &&& 31))) ||| ((u2 &&& (255 : Int32)) <<< ((16 : Int32) &&& 31))) h0 n0 Z0) hZ (hw _ (List.mem_of_getElem? (i := 19) rfl)) (hw _ (List.mem_of_getElem? (i := 4) rfl)) (by decide) (by decide)) (g := (mkF m 150 #[.val (.ref a0), .val (.int (0 : Int32)), .val (.int (0 : Int32)), .val (.int (3 : Int32)), .val (.int (((u0 &&& (255 : Int32)) ||| ((u1 &&& (255 : Int32)) <<< ((8 : Int32) &&& 31))) ||| ((u2 &&& (255 : Int32)) <<< ((16 : Int32) &&& 31))))] [(.int (((u0 &&& (255 : Int32)) ||| ((u1 &&& (255 : Int32)) <<< ((8 : Int32) &&& 31))) ||| ((u2 &&& (255 : Int32)) <<< ((16 : Int32) &&& 31)))), (.int (0 : Int32))])) rfl (by rw [hml]; rfl) (argsL := [(.int (((u0 &&& (255 : Int32)) ||| ((u1 &&& (255 : Int32)) <<< ((8 : Int32) &&& 31))) ||| ((u2 &&& (255 : Int32)) <<< ((16 : Int32) &&& 31))))]) (rest := [(.int (0 : Int32))]) (lenOf pd1 rfl) rfl (by show 2 * 0 + _ ≤ _; exact Nat.le_of_eq rfl) (hb hby d_hs3_150) (fun _ _ => ⟨rfl, e0, (by decide : 0 + 0 ≤ _), (by decide : 0 + 0 ≤ _)⟩)
  dsimp only [Pt.U, Pt.locs, Pt.cells, Pt.slots] at X9 l9 y9 z9 st9 hQ9
  subst l9 y9 z9
  obtain ⟨rfl, N9q, eq9⟩ := hQ9
  have N9 := Fr.app N0 N9q
  refine own_go st9 ?_
  show own_Got p e below _ T9 (mkF m 153 #[.val (.ref a0), .val (.int (0 : Int32)), .val (.int (0 : Int32)), .val (.int (3 : Int32)), .val (.int (((u0 &&& (255 : Int32)) ||| ((u1 &&& (255 : Int32)) <<< ((8 : Int32) &&& 31))) ||| ((u2 &&& (255 : Int32)) <<< ((16 : Int32) &&& 31))))] [(.int (F_mix (((u0 &&& (255 : Int32)) ||| ((u1 &&& (255 : Int32)) <<< ((8 : Int32) &&& 31))) ||| ((u2 &&& (255 : Int32)) <<< ((16 : Int32) &&& 31))))), (.int (0 : Int32))])
  refine g_ixor X9 hx hby d_hs3_153 (rfl : 153 + 1 = 154) ?_
  refine g_istoreN X9 hx hby #[.val (.ref a0), .val (.int ((0 : Int32) ^^^ (F_mix (((u0 &&& (255 : Int32)) ||| ((u1 &&& (255 : Int32)) <<< ((8 : Int32) &&& 31))) ||| ((u2 &&& (255 : Int32)) <<< ((16 : Int32) &&& 31)))))), .val (.int (0 : Int32)), .val (.int (3 : Int32)), .val (.int (((u0 &&& (255 : Int32)) ||| ((u1 &&& (255 : Int32)) <<< ((8 : Int32) &&& 31))) ||| ((u2 &&& (255 : Int32)) <<< ((16 : Int32) &&& 31))))] d_hs3_154 rfl (rfl : 154 + 1 = 155) ?_
  refine g_iloadN X9 hx hby d_hs3_155 rfl (rfl : 155 + 1 = 156) ?_
  refine g_aloadN X9 hx hby d_hs3_156 rfl rfl (rfl : 156 + 1 = 157) ?_
  refine g_alen X9 hx hby hZ eq9 hp0 d_hs3_157 (rfl : 157 + 1 = 158) ?_
  refine g_ixor X9 hx hby d_hs3_158 (rfl : 158 + 1 = 159) ?_
  refine g_istoreN X9 hx hby #[.val (.ref a0), .val (.int (((0 : Int32) ^^^ (F_mix (((u0 &&& (255 : Int32)) ||| ((u1 &&& (255 : Int32)) <<< ((8 : Int32) &&& 31))) ||| ((u2 &&& (255 : Int32)) <<< ((16 : Int32) &&& 31))))) ^^^ (3 : Int32))), .val (.int (0 : Int32)), .val (.int (3 : Int32)), .val (.int (((u0 &&& (255 : Int32)) ||| ((u1 &&& (255 : Int32)) <<< ((8 : Int32) &&& 31))) ||| ((u2 &&& (255 : Int32)) <<< ((16 : Int32) &&& 31))))] d_hs3_159 rfl (rfl : 159 + 1 = 160) ?_
  refine g_iloadN X9 hx hby d_hs3_160 rfl (rfl : 160 + 1 = 161) ?_
  refine g_iloadN X9 hx hby d_hs3_161 rfl (rfl : 161 + 1 = 162) ?_
  refine g_bipush X9 hx hby (16 : Int32) d_hs3_162 (by decide) (rfl : 162 + 2 = 164) ?_
  refine g_iushr X9 hx hby d_hs3_164 (rfl : 164 + 1 = 165) ?_
  refine g_ixor X9 hx hby d_hs3_165 (rfl : 165 + 1 = 166) ?_
  refine g_istoreN X9 hx hby #[.val (.ref a0), .val (.int ((((0 : Int32) ^^^ (F_mix (((u0 &&& (255 : Int32)) ||| ((u1 &&& (255 : Int32)) <<< ((8 : Int32) &&& 31))) ||| ((u2 &&& (255 : Int32)) <<< ((16 : Int32) &&& 31))))) ^^^ (3 : Int32)) ^^^ (((((0 : Int32) ^^^ (F_mix (((u0 &&& (255 : Int32)) ||| ((u1 &&& (255 : Int32)) <<< ((8 : Int32) &&& 31))) ||| ((u2 &&& (255 : Int32)) <<< ((16 : Int32) &&& 31))))) ^^^ (3 : Int32)).toUInt32 >>> ((16 : Int32) &&& 31).toUInt32).toInt32))), .val (.int (0 : Int32)), .val (.int (3 : Int32)), .val (.int (((u0 &&& (255 : Int32)) ||| ((u1 &&& (255 : Int32)) <<< ((8 : Int32) &&& 31))) ||| ((u2 &&& (255 : Int32)) <<< ((16 : Int32) &&& 31))))] d_hs3_166 rfl (rfl : 166 + 1 = 167) ?_
  refine g_iloadN X9 hx hby d_hs3_167 rfl (rfl : 167 + 1 = 168) ?_
  refine g_ldcI X9 hx hby hZ hown (hw _ (List.mem_of_getElem? (i := 6) rfl)) d_hs3_168 (rfl : 168 + 2 = 170) ?_
  refine g_imul X9 hx hby d_hs3_170 (rfl : 170 + 1 = 171) ?_
  refine g_istoreN X9 hx hby #[.val (.ref a0), .val (.int (((((0 : Int32) ^^^ (F_mix (((u0 &&& (255 : Int32)) ||| ((u1 &&& (255 : Int32)) <<< ((8 : Int32) &&& 31))) ||| ((u2 &&& (255 : Int32)) <<< ((16 : Int32) &&& 31))))) ^^^ (3 : Int32)) ^^^ (((((0 : Int32) ^^^ (F_mix (((u0 &&& (255 : Int32)) ||| ((u1 &&& (255 : Int32)) <<< ((8 : Int32) &&& 31))) ||| ((u2 &&& (255 : Int32)) <<< ((16 : Int32) &&& 31))))) ^^^ (3 : Int32)).toUInt32 >>> ((16 : Int32) &&& 31).toUInt32).toInt32)) * (-2048144789 : Int32))), .val (.int (0 : Int32)), .val (.int (3 : Int32)), .val (.int (((u0 &&& (255 : Int32)) ||| ((u1 &&& (255 : Int32)) <<< ((8 : Int32) &&& 31))) ||| ((u2 &&& (255 : Int32)) <<< ((16 : Int32) &&& 31))))] d_hs3_171 rfl (rfl : 171 + 1 = 172) ?_
  refine g_iloadN X9 hx hby d_hs3_172 rfl (rfl : 172 + 1 = 173) ?_
  refine g_iloadN X9 hx hby d_hs3_173 rfl (rfl : 173 + 1 = 174) ?_
  refine g_bipush X9 hx hby (13 : Int32) d_hs3_174 (by decide) (rfl : 174 + 2 = 176) ?_
  refine g_iushr X9 hx hby d_hs3_176 (rfl : 176 + 1 = 177) ?_
  refine g_ixor X9 hx hby d_hs3_177 (rfl : 177 + 1 = 178) ?_
  refine g_istoreN X9 hx hby #[.val (.ref a0), .val (.int ((((((0 : Int32) ^^^ (F_mix (((u0 &&& (255 : Int32)) ||| ((u1 &&& (255 : Int32)) <<< ((8 : Int32) &&& 31))) ||| ((u2 &&& (255 : Int32)) <<< ((16 : Int32) &&& 31))))) ^^^ (3 : Int32)) ^^^ (((((0 : Int32) ^^^ (F_mix (((u0 &&& (255 : Int32)) ||| ((u1 &&& (255 : Int32)) <<< ((8 : Int32) &&& 31))) ||| ((u2 &&& (255 : Int32)) <<< ((16 : Int32) &&& 31))))) ^^^ (3 : Int32)).toUInt32 >>> ((16 : Int32) &&& 31).toUInt32).toInt32)) * (-2048144789 : Int32)) ^^^ (((((((0 : Int32) ^^^ (F_mix (((u0 &&& (255 : Int32)) ||| ((u1 &&& (255 : Int32)) <<< ((8 : Int32) &&& 31))) ||| ((u2 &&& (255 : Int32)) <<< ((16 : Int32) &&& 31))))) ^^^ (3 : Int32)) ^^^ (((((0 : Int32) ^^^ (F_mix (((u0 &&& (255 : Int32)) ||| ((u1 &&& (255 : Int32)) <<< ((8 : Int32) &&& 31))) ||| ((u2 &&& (255 : Int32)) <<< ((16 : Int32) &&& 31))))) ^^^ (3 : Int32)).toUInt32 >>> ((16 : Int32) &&& 31).toUInt32).toInt32)) * (-2048144789 : Int32)).toUInt32 >>> ((13 : Int32) &&& 31).toUInt32).toInt32))), .val (.int (0 : Int32)), .val (.int (3 : Int32)), .val (.int (((u0 &&& (255 : Int32)) ||| ((u1 &&& (255 : Int32)) <<< ((8 : Int32) &&& 31))) ||| ((u2 &&& (255 : Int32)) <<< ((16 : Int32) &&& 31))))] d_hs3_178 rfl (rfl : 178 + 1 = 179) ?_
  refine g_iloadN X9 hx hby d_hs3_179 rfl (rfl : 179 + 1 = 180) ?_
  refine g_ldcI X9 hx hby hZ hown (hw _ (List.mem_of_getElem? (i := 7) rfl)) d_hs3_180 (rfl : 180 + 2 = 182) ?_
  refine g_imul X9 hx hby d_hs3_182 (rfl : 182 + 1 = 183) ?_
  refine g_istoreN X9 hx hby #[.val (.ref a0), .val (.int (((((((0 : Int32) ^^^ (F_mix (((u0 &&& (255 : Int32)) ||| ((u1 &&& (255 : Int32)) <<< ((8 : Int32) &&& 31))) ||| ((u2 &&& (255 : Int32)) <<< ((16 : Int32) &&& 31))))) ^^^ (3 : Int32)) ^^^ (((((0 : Int32) ^^^ (F_mix (((u0 &&& (255 : Int32)) ||| ((u1 &&& (255 : Int32)) <<< ((8 : Int32) &&& 31))) ||| ((u2 &&& (255 : Int32)) <<< ((16 : Int32) &&& 31))))) ^^^ (3 : Int32)).toUInt32 >>> ((16 : Int32) &&& 31).toUInt32).toInt32)) * (-2048144789 : Int32)) ^^^ (((((((0 : Int32) ^^^ (F_mix (((u0 &&& (255 : Int32)) ||| ((u1 &&& (255 : Int32)) <<< ((8 : Int32) &&& 31))) ||| ((u2 &&& (255 : Int32)) <<< ((16 : Int32) &&& 31))))) ^^^ (3 : Int32)) ^^^ (((((0 : Int32) ^^^ (F_mix (((u0 &&& (255 : Int32)) ||| ((u1 &&& (255 : Int32)) <<< ((8 : Int32) &&& 31))) ||| ((u2 &&& (255 : Int32)) <<< ((16 : Int32) &&& 31))))) ^^^ (3 : Int32)).toUInt32 >>> ((16 : Int32) &&& 31).toUInt32).toInt32)) * (-2048144789 : Int32)).toUInt32 >>> ((13 : Int32) &&& 31).toUInt32).toInt32)) * (-1028477387 : Int32))), .val (.int (0 : Int32)), .val (.int (3 : Int32)), .val (.int (((u0 &&& (255 : Int32)) ||| ((u1 &&& (255 : Int32)) <<< ((8 : Int32) &&& 31))) ||| ((u2 &&& (255 : Int32)) <<< ((16 : Int32) &&& 31))))] d_hs3_183 rfl (rfl : 183 + 1 = 184) ?_
  refine g_iloadN X9 hx hby d_hs3_184 rfl (rfl : 184 + 1 = 185) ?_
  refine g_iloadN X9 hx hby d_hs3_185 rfl (rfl : 185 + 1 = 186) ?_
  refine g_bipush X9 hx hby (16 : Int32) d_hs3_186 (by decide) (rfl : 186 + 2 = 188) ?_
  refine g_iushr X9 hx hby d_hs3_188 (rfl : 188 + 1 = 189) ?_
  refine g_ixor X9 hx hby d_hs3_189 (rfl : 189 + 1 = 190) ?_
  refine own_retI X9 hx hby hlk hrt d_hs3_190 (by decide) (by decide) ?_
  show Q_hs3 Z a0 kk u0 u1 u2 h0 n0 _ T9.heap _
  exact ⟨rfl, N9, eq9⟩
theorem d_hs4_0 : decode prog_62_method_2_code 0 = .ok (.iconst 0, 1) := by decide +kernel
theorem d_hs4_1 : decode prog_62_method_2_code 1 = .ok (.istore_n 1, 1) := by decide +kernel
theorem d_hs4_2 : decode prog_62_method_2_code 2 = .ok (.aload_n 0, 1) := by decide +kernel
theorem d_hs4_3 : decode prog_62_method_2_code 3 = .ok (.arraylength, 1) := by decide +kernel
theorem d_hs4_4 : decode prog_62_method_2_code 4 = .ok (.bipush (-4), 2) := by decide +kernel
theorem d_hs4_6 : decode prog_62_method_2_code 6 = .ok (.iand, 1) := by decide +kernel
theorem d_hs4_7 : decode prog_62_method_2_code 7 = .ok (.istore_n 2, 1) := by decide +kernel
theorem d_hs4_8 : decode prog_62_method_2_code 8 = .ok (.iconst 0, 1) := by decide +kernel
theorem d_hs4_9 : decode prog_62_method_2_code 9 = .ok (.istore_n 3, 1) := by decide +kernel
theorem d_hs4_10 : decode prog_62_method_2_code 10 = .ok (.iload_n 3, 1) := by decide +kernel
theorem d_hs4_11 : decode prog_62_method_2_code 11 = .ok (.iload_n 2, 1) := by decide +kernel
theorem d_hs4_12 : decode prog_62_method_2_code 12 = .ok (.if_icmp .ge 73, 3) := by decide +kernel
theorem d_hs4_15 : decode prog_62_method_2_code 15 = .ok (.aload_n 0, 1) := by decide +kernel
theorem d_hs4_16 : decode prog_62_method_2_code 16 = .ok (.iload_n 3, 1) := by decide +kernel
theorem d_hs4_17 : decode prog_62_method_2_code 17 = .ok (.baload, 1) := by decide +kernel
theorem d_hs4_18 : decode prog_62_method_2_code 18 = .ok (.sipush 255, 3) := by decide +kernel
theorem d_hs4_21 : decode prog_62_method_2_code 21 = .ok (.iand, 1) := by decide +kernel
theorem d_hs4_22 : decode prog_62_method_2_code 22 = .ok (.aload_n 0, 1) := by decide +kernel
theorem d_hs4_23 : decode prog_62_method_2_code 23 = .ok (.iload_n 3, 1) := by decide +kernel
theorem d_hs4_24 : decode prog_62_method_2_code 24 = .ok (.iconst 1, 1) := by decide +kernel
theorem d_hs4_25 : decode prog_62_method_2_code 25 = .ok (.iadd, 1) := by decide +kernel
theorem d_hs4_26 : decode prog_62_method_2_code 26 = .ok (.baload, 1) := by decide +kernel
theorem d_hs4_27 : decode prog_62_method_2_code 27 = .ok (.sipush 255, 3) := by decide +kernel
theorem d_hs4_30 : decode prog_62_method_2_code 30 = .ok (.iand, 1) := by decide +kernel
theorem d_hs4_31 : decode prog_62_method_2_code 31 = .ok (.bipush 8, 2) := by decide +kernel
theorem d_hs4_33 : decode prog_62_method_2_code 33 = .ok (.ishl, 1) := by decide +kernel
theorem d_hs4_34 : decode prog_62_method_2_code 34 = .ok (.ior, 1) := by decide +kernel
theorem d_hs4_35 : decode prog_62_method_2_code 35 = .ok (.aload_n 0, 1) := by decide +kernel
theorem d_hs4_36 : decode prog_62_method_2_code 36 = .ok (.iload_n 3, 1) := by decide +kernel
theorem d_hs4_37 : decode prog_62_method_2_code 37 = .ok (.iconst 2, 1) := by decide +kernel
theorem d_hs4_38 : decode prog_62_method_2_code 38 = .ok (.iadd, 1) := by decide +kernel
theorem d_hs4_39 : decode prog_62_method_2_code 39 = .ok (.baload, 1) := by decide +kernel
theorem d_hs4_40 : decode prog_62_method_2_code 40 = .ok (.sipush 255, 3) := by decide +kernel
theorem d_hs4_43 : decode prog_62_method_2_code 43 = .ok (.iand, 1) := by decide +kernel
theorem d_hs4_44 : decode prog_62_method_2_code 44 = .ok (.bipush 16, 2) := by decide +kernel
theorem d_hs4_46 : decode prog_62_method_2_code 46 = .ok (.ishl, 1) := by decide +kernel
theorem d_hs4_47 : decode prog_62_method_2_code 47 = .ok (.ior, 1) := by decide +kernel
theorem d_hs4_48 : decode prog_62_method_2_code 48 = .ok (.aload_n 0, 1) := by decide +kernel
theorem d_hs4_49 : decode prog_62_method_2_code 49 = .ok (.iload_n 3, 1) := by decide +kernel
theorem d_hs4_50 : decode prog_62_method_2_code 50 = .ok (.iconst 3, 1) := by decide +kernel
theorem d_hs4_51 : decode prog_62_method_2_code 51 = .ok (.iadd, 1) := by decide +kernel
theorem d_hs4_52 : decode prog_62_method_2_code 52 = .ok (.baload, 1) := by decide +kernel
theorem d_hs4_53 : decode prog_62_method_2_code 53 = .ok (.bipush 24, 2) := by decide +kernel
theorem d_hs4_55 : decode prog_62_method_2_code 55 = .ok (.ishl, 1) := by decide +kernel
theorem d_hs4_56 : decode prog_62_method_2_code 56 = .ok (.ior, 1) := by decide +kernel
theorem d_hs4_57 : decode prog_62_method_2_code 57 = .ok (.istore 4, 2) := by decide +kernel
theorem d_hs4_59 : decode prog_62_method_2_code 59 = .ok (.iload_n 1, 1) := by decide +kernel
theorem d_hs4_60 : decode prog_62_method_2_code 60 = .ok (.iload 4, 2) := by decide +kernel
theorem d_hs4_62 : decode prog_62_method_2_code 62 = .ok (.invokestatic 7, 3) := by decide +kernel
theorem d_hs4_65 : decode prog_62_method_2_code 65 = .ok (.ixor, 1) := by decide +kernel
theorem d_hs4_66 : decode prog_62_method_2_code 66 = .ok (.istore_n 1, 1) := by decide +kernel
theorem d_hs4_67 : decode prog_62_method_2_code 67 = .ok (.iload_n 1, 1) := by decide +kernel
theorem d_hs4_68 : decode prog_62_method_2_code 68 = .ok (.bipush 13, 2) := by decide +kernel
theorem d_hs4_70 : decode prog_62_method_2_code 70 = .ok (.invokestatic 13, 3) := by decide +kernel
theorem d_hs4_73 : decode prog_62_method_2_code 73 = .ok (.iconst 5, 1) := by decide +kernel
theorem d_hs4_74 : decode prog_62_method_2_code 74 = .ok (.imul, 1) := by decide +kernel
theorem d_hs4_75 : decode prog_62_method_2_code 75 = .ok (.ldc 19, 2) := by decide +kernel
theorem d_hs4_77 : decode prog_62_method_2_code 77 = .ok (.iadd, 1) := by decide +kernel
theorem d_hs4_78 : decode prog_62_method_2_code 78 = .ok (.istore_n 1, 1) := by decide +kernel
theorem d_hs4_79 : decode prog_62_method_2_code 79 = .ok (.iinc 3 4, 3) := by decide +kernel
theorem d_hs4_82 : decode prog_62_method_2_code 82 = .ok (.goto (-72), 3) := by decide +kernel
theorem d_hs4_85 : decode prog_62_method_2_code 85 = .ok (.aload_n 0, 1) := by decide +kernel
theorem d_hs4_86 : decode prog_62_method_2_code 86 = .ok (.arraylength, 1) := by decide +kernel
theorem d_hs4_87 : decode prog_62_method_2_code 87 = .ok (.iconst 3, 1) := by decide +kernel
theorem d_hs4_88 : decode prog_62_method_2_code 88 = .ok (.iand, 1) := by decide +kernel
theorem d_hs4_89 : decode prog_62_method_2_code 89 = .ok (.istore_n 3, 1) := by decide +kernel
theorem d_hs4_90 : decode prog_62_method_2_code 90 = .ok (.iload_n 3, 1) := by decide +kernel
theorem d_hs4_91 : decode prog_62_method_2_code 91 = .ok (.ifCond .le 64, 3) := by decide +kernel
theorem d_hs4_155 : decode prog_62_method_2_code 155 = .ok (.iload_n 1, 1) := by decide +kernel
theorem d_hs4_156 : decode prog_62_method_2_code 156 = .ok (.aload_n 0, 1) := by decide +kernel
theorem d_hs4_157 : decode prog_62_method_2_code 157 = .ok (.arraylength, 1) := by decide +kernel
theorem d_hs4_158 : decode prog_62_method_2_code 158 = .ok (.ixor, 1) := by decide +kernel
theorem d_hs4_159 : decode prog_62_method_2_code 159 = .ok (.istore_n 1, 1) := by decide +kernel
theorem d_hs4_160 : decode prog_62_method_2_code 160 = .ok (.iload_n 1, 1) := by decide +kernel
theorem d_hs4_161 : decode prog_62_method_2_code 161 = .ok (.iload_n 1, 1) := by decide +kernel
theorem d_hs4_162 : decode prog_62_method_2_code 162 = .ok (.bipush 16, 2) := by decide +kernel
theorem d_hs4_164 : decode prog_62_method_2_code 164 = .ok (.iushr, 1) := by decide +kernel
theorem d_hs4_165 : decode prog_62_method_2_code 165 = .ok (.ixor, 1) := by decide +kernel
theorem d_hs4_166 : decode prog_62_method_2_code 166 = .ok (.istore_n 1, 1) := by decide +kernel
theorem d_hs4_167 : decode prog_62_method_2_code 167 = .ok (.iload_n 1, 1) := by decide +kernel
theorem d_hs4_168 : decode prog_62_method_2_code 168 = .ok (.ldc 20, 2) := by decide +kernel
theorem d_hs4_170 : decode prog_62_method_2_code 170 = .ok (.imul, 1) := by decide +kernel
theorem d_hs4_171 : decode prog_62_method_2_code 171 = .ok (.istore_n 1, 1) := by decide +kernel
theorem d_hs4_172 : decode prog_62_method_2_code 172 = .ok (.iload_n 1, 1) := by decide +kernel
theorem d_hs4_173 : decode prog_62_method_2_code 173 = .ok (.iload_n 1, 1) := by decide +kernel
theorem d_hs4_174 : decode prog_62_method_2_code 174 = .ok (.bipush 13, 2) := by decide +kernel
theorem d_hs4_176 : decode prog_62_method_2_code 176 = .ok (.iushr, 1) := by decide +kernel
theorem d_hs4_177 : decode prog_62_method_2_code 177 = .ok (.ixor, 1) := by decide +kernel
theorem d_hs4_178 : decode prog_62_method_2_code 178 = .ok (.istore_n 1, 1) := by decide +kernel
theorem d_hs4_179 : decode prog_62_method_2_code 179 = .ok (.iload_n 1, 1) := by decide +kernel
theorem d_hs4_180 : decode prog_62_method_2_code 180 = .ok (.ldc 21, 2) := by decide +kernel
theorem d_hs4_182 : decode prog_62_method_2_code 182 = .ok (.imul, 1) := by decide +kernel
theorem d_hs4_183 : decode prog_62_method_2_code 183 = .ok (.istore_n 1, 1) := by decide +kernel
theorem d_hs4_184 : decode prog_62_method_2_code 184 = .ok (.iload_n 1, 1) := by decide +kernel
theorem d_hs4_185 : decode prog_62_method_2_code 185 = .ok (.iload_n 1, 1) := by decide +kernel
theorem d_hs4_186 : decode prog_62_method_2_code 186 = .ok (.bipush 16, 2) := by decide +kernel
theorem d_hs4_188 : decode prog_62_method_2_code 188 = .ok (.iushr, 1) := by decide +kernel
theorem d_hs4_189 : decode prog_62_method_2_code 189 = .ok (.ixor, 1) := by decide +kernel
theorem d_hs4_190 : decode prog_62_method_2_code 190 = .ok (.ireturn, 1) := by decide +kernel
theorem ef_hs4 (m : MethodId) (a0 : Addr) : entryFrame m #[(.ref a0)] 5 = mkF m 0 #[.val (.ref a0), .unset, .unset, .unset, .unset] [] := by first | (simp [entryFrame, mkF, argsToLocals, Value.category]; done) | rfl
def F_hs4 (u0 : Int32) (u1 : Int32) (u2 : Int32) (u3 : Int32) : Int32 := (((((((((F_rot ((0 : Int32) ^^^ (F_mix ((((u0 &&& (255 : Int32)) ||| ((u1 &&& (255 : Int32)) <<< ((8 : Int32) &&& 31))) ||| ((u2 &&& (255 : Int32)) <<< ((16 : Int32) &&& 31))) ||| (u3 <<< ((24 : Int32) &&& 31))))) (13 : Int32)) * (5 : Int32)) + (-430675100 : Int32)) ^^^ (4 : Int32)) ^^^ ((((((F_rot ((0 : Int32) ^^^ (F_mix ((((u0 &&& (255 : Int32)) ||| ((u1 &&& (255 : Int32)) <<< ((8 : Int32) &&& 31))) ||| ((u2 &&& (255 : Int32)) <<< ((16 : Int32) &&& 31))) ||| (u3 <<< ((24 : Int32) &&& 31))))) (13 : Int32)) * (5 : Int32)) + (-430675100 : Int32)) ^^^ (4 : Int32)).toUInt32 >>> ((16 : Int32) &&& 31).toUInt32).toInt32)) * (-2048144789 : Int32)) ^^^ ((((((((F_rot ((0 : Int32) ^^^ (F_mix ((((u0 &&& (255 : Int32)) ||| ((u1 &&& (255 : Int32)) <<< ((8 : Int32) &&& 31))) ||| ((u2 &&& (255 : Int32)) <<< ((16 : Int32) &&& 31))) ||| (u3 <<< ((24 : Int32) &&& 31))))) (13 : Int32)) * (5 : Int32)) + (-430675100 : Int32)) ^^^ (4 : Int32)) ^^^ ((((((F_rot ((0 : Int32) ^^^ (F_mix ((((u0 &&& (255 : Int32)) ||| ((u1 &&& (255 : Int32)) <<< ((8 : Int32) &&& 31))) ||| ((u2 &&& (255 : Int32)) <<< ((16 : Int32) &&& 31))) ||| (u3 <<< ((24 : Int32) &&& 31))))) (13 : Int32)) * (5 : Int32)) + (-430675100 : Int32)) ^^^ (4 : Int32)).toUInt32 >>> ((16 : Int32) &&& 31).toUInt32).toInt32)) * (-2048144789 : Int32)).toUInt32 >>> ((13 : Int32) &&& 31).toUInt32).toInt32)) * (-1028477387 : Int32)) ^^^ ((((((((((F_rot ((0 : Int32) ^^^ (F_mix ((((u0 &&& (255 : Int32)) ||| ((u1 &&& (255 : Int32)) <<< ((8 : Int32) &&& 31))) ||| ((u2 &&& (255 : Int32)) <<< ((16 : Int32) &&& 31))) ||| (u3 <<< ((24 : Int32) &&& 31))))) (13 : Int32)) * (5 : Int32)) + (-430675100 : Int32)) ^^^ (4 : Int32)) ^^^ ((((((F_rot ((0 : Int32) ^^^ (F_mix ((((u0 &&& (255 : Int32)) ||| ((u1 &&& (255 : Int32)) <<< ((8 : Int32) &&& 31))) ||| ((u2 &&& (255 : Int32)) <<< ((16 : Int32) &&& 31))) ||| (u3 <<< ((24 : Int32) &&& 31))))) (13 : Int32)) * (5 : Int32)) + (-430675100 : Int32)) ^^^ (4 : Int32)).toUInt32 >>> ((16 : Int32) &&& 31).toUInt32).toInt32)) * (-2048144789 : Int32)) ^^^ ((((((((F_rot ((0 : Int32) ^^^ (F_mix ((((u0 &&& (255 : Int32)) ||| ((u1 &&& (255 : Int32)) <<< ((8 : Int32) &&& 31))) ||| ((u2 &&& (255 : Int32)) <<< ((16 : Int32) &&& 31))) ||| (u3 <<< ((24 : Int32) &&& 31))))) (13 : Int32)) * (5 : Int32)) + (-430675100 : Int32)) ^^^ (4 : Int32)) ^^^ ((((((F_rot ((0 : Int32) ^^^ (F_mix ((((u0 &&& (255 : Int32)) ||| ((u1 &&& (255 : Int32)) <<< ((8 : Int32) &&& 31))) ||| ((u2 &&& (255 : Int32)) <<< ((16 : Int32) &&& 31))) ||| (u3 <<< ((24 : Int32) &&& 31))))) (13 : Int32)) * (5 : Int32)) + (-430675100 : Int32)) ^^^ (4 : Int32)).toUInt32 >>> ((16 : Int32) &&& 31).toUInt32).toInt32)) * (-2048144789 : Int32)).toUInt32 >>> ((13 : Int32) &&& 31).toUInt32).toInt32)) * (-1028477387 : Int32)).toUInt32 >>> ((16 : Int32) &&& 31).toUInt32).toInt32))
def Q_hs4 (Z : State) (a0 : Addr) (kk : ClassId) (u0 : Int32) (u1 : Int32) (u2 : Int32) (u3 : Int32) (h0 : Heap) (n0 : Nat) (v : Option Value) (h : Heap) (L : List Loc) : Prop := v = some (.int (F_hs4 u0 u1 u2 u3)) ∧ Fr n0 L ∧ h = h0
set_option maxRecDepth 65536 in
set_option maxHeartbeats 40000000 in
theorem rm_hs4 (l : Launch) (Z : State) (aT : Array Value) (hw : ∀ d ∈ tables_1, d.before aT Z = true) (ws : List Jvm.Cond) (a0 : Addr) (kk : ClassId) (u0 : Int32) (u1 : Int32) (u2 : Int32) (u3 : Int32) (h0 : Heap) (n0 : Nat) (Z0 : n0 ≤ h0.size) (hp0 : Arv Z h0 a0 kk .byte (4 : Int32) [(.int u0), (.int u1), (.int u2), (.int u3)] (.int (0 : Int32))) :
    MetFree l (⟨"com/example/farshard/farshard/store/Murmur3", "hash32", "([B)I"⟩ : MethodName) (head1 (Jvm.Cond.code (⟨"com/example/farshard/farshard/store/Murmur3", "hash32", "([B)I"⟩ : MethodName) prog_62_method_2_code 5 (some .int) :: ws) ({ frames := 2, cells := 0, slots := 0, locals := 26 } : Room)) (fun a U => a = #[(.ref a0)] ∧ Z.Warmed39 U.vm ∧ U.heap = h0) (fun _ _ _ _ _ => True) (fun _ U o U' => ∃ v L, o = .returned v ∧ Q_hs4 Z a0 kk u0 u1 u2 u3 h0 n0 v U'.heap L ∧ FrameEnd U o U' L ({ frames := 2, cells := 0, slots := 0, locals := 26 } : Room).cells ({ frames := 2, cells := 0, slots := 0, locals := 26 } : Room).slots) := by
  refine MetFree.of_bodySF (plainFor_of_name pn1) hisR ?_
  intro p e s m args below meth c s₁ Bd hml0 hP hK
  obtain ⟨rfl, hZ, hh⟩ := hP
  have hx := Bd.exec
  have hby := Bd.bytes
  have hml : c.maxLocals = 5 := hml0
  have hown : s.vm.findClass "com/example/farshard/farshard/store/Murmur3" = some m.cls := findClass_of_methodNamed Bd.named
  have hnm := (name_of_methodNamed Bd.named Bd.method).1
  have hlk := Bd.notSynchronized
  have hrt := Bd.returns
  have X0 : Stand p l e ({ frames := 2, cells := 0, slots := 0, locals := 26 } : Room) s m #[(.ref a0)] below meth c s₁ [] 0 0 := Stand.of_body Bd
  have e0 : s₁.heap = h0 := by rw [← hh, Bd.state]; rfl
  have N0 := Fr.nil n0
  refine own_cast (P := own_End s (Q_hs4 Z a0 kk u0 u1 u2 u3 h0 n0) ({ frames := 2, cells := 0, slots := 0, locals := 26 } : Room).cells ({ frames := 2, cells := 0, slots := 0, locals := 26 } : Room).slots) (ef_hs4 m a0) ?_
  refine g_iconst X0 hx hby (0 : Int32) d_hs4_0 (by decide) (rfl : 0 + 1 = 1) ?_
  refine g_istoreN X0 hx hby #[.val (.ref a0), .val (.int (0 : Int32)), .unset, .unset, .unset] d_hs4_1 rfl (rfl : 1 + 1 = 2) ?_
  refine g_aloadN X0 hx hby d_hs4_2 rfl rfl (rfl : 2 + 1 = 3) ?_
  refine g_alen X0 hx hby hZ e0 hp0 d_hs4_3 (rfl : 3 + 1 = 4) ?_
  refine g_bipush X0 hx hby (-4 : Int32) d_hs4_4 (by decide) (rfl : 4 + 2 = 6) ?_
  refine g_iand X0 hx hby d_hs4_6 (rfl : 6 + 1 = 7) ?_
  rw [(by decide : ((4 : Int32) &&& (-4 : Int32)) = (4 : Int32))]
  refine g_istoreN X0 hx hby #[.val (.ref a0), .val (.int (0 : Int32)), .val (.int (4 : Int32)), .unset, .unset] d_hs4_7 rfl (rfl : 7 + 1 = 8) ?_
  refine g_iconst X0 hx hby (0 : Int32) d_hs4_8 (by decide) (rfl : 8 + 1 = 9) ?_
  refine g_istoreN X0 hx hby #[.val (.ref a0), .val (.int (0 : Int32)), .val (.int (4 : Int32)), .val (.int (0 : Int32)), .unset] d_hs4_9 rfl (rfl : 9 + 1 = 10) ?_
  refine g_iloadN X0 hx hby d_hs4_10 rfl (rfl : 10 + 1 = 11) ?_
  refine g_iloadN X0 hx hby d_hs4_11 rfl (rfl : 11 + 1 = 12) ?_
  refine g_icF X0 hx hby d_hs4_12 (tlt (by decide : (0 : Int32) < (4 : Int32))).2.1 (rfl : 12 + 3 = 15) ?_
  refine g_aloadN X0 hx hby d_hs4_15 rfl rfl (rfl : 15 + 1 = 16) ?_
  refine g_iloadN X0 hx hby d_hs4_16 rfl (rfl : 16 + 1 = 17) ?_
  refine g_baload X0 hx hby hZ e0 (v := (.int u0)) hp0 ⟨by decide, by decide⟩ rfl d_hs4_17 (rfl : 17 + 1 = 18) ?_
  refine g_sipush X0 hx hby (255 : Int32) d_hs4_18 (by decide) (rfl : 18 + 3 = 21) ?_
  refine g_iand X0 hx hby d_hs4_21 (rfl : 21 + 1 = 22) ?_
  refine g_aloadN X0 hx hby d_hs4_22 rfl rfl (rfl : 22 + 1 = 23) ?_
  refine g_iloadN X0 hx hby d_hs4_23 rfl (rfl : 23 + 1 = 24) ?_
  refine g_iconst X0 hx hby (1 : Int32) d_hs4_24 (by decide) (rfl : 24 + 1 = 25) ?_
  refine g_iadd X0 hx hby d_hs4_25 (rfl : 25 + 1 = 26) ?_
  rw [(by decide : ((0 : Int32) + (1 : Int32)) = (1 : Int32))]
  refine g_baload X0 hx hby hZ e0 (v := (.int u1)) hp0 ⟨by decide, by decide⟩ rfl d_hs4_26 (rfl : 26 + 1 = 27) ?_
  refine g_sipush X0 hx hby (255 : Int32) d_hs4_27 (by decide) (rfl : 27 + 3 = 30) ?_
  refine g_iand X0 hx hby d_hs4_30 (rfl : 30 + 1 = 31) ?_
  refine g_bipush X0 hx hby (8 : Int32) d_hs4_31 (by decide) (rfl : 31 + 2 = 33) ?_
  refine g_ishl X0 hx hby d_hs4_33 (rfl : 33 + 1 = 34) ?_
  refine g_ior X0 hx hby d_hs4_34 (rfl : 34 + 1 = 35) ?_
  refine g_aloadN X0 hx hby d_hs4_35 rfl rfl (rfl : 35 + 1 = 36) ?_
  refine g_iloadN X0 hx hby d_hs4_36 rfl (rfl : 36 + 1 = 37) ?_
  refine g_iconst X0 hx hby (2 : Int32) d_hs4_37 (by decide) (rfl : 37 + 1 = 38) ?_
  refine g_iadd X0 hx hby d_hs4_38 (rfl : 38 + 1 = 39) ?_
  rw [(by decide : ((0 : Int32) + (2 : Int32)) = (2 : Int32))]
  refine g_baload X0 hx hby hZ e0 (v := (.int u2)) hp0 ⟨by decide, by decide⟩ rfl d_hs4_39 (rfl : 39 + 1 = 40) ?_
  refine g_sipush X0 hx hby (255 : Int32) d_hs4_40 (by decide) (rfl : 40 + 3 = 43) ?_
  refine g_iand X0 hx hby d_hs4_43 (rfl : 43 + 1 = 44) ?_
  refine g_bipush X0 hx hby (16 : Int32) d_hs4_44 (by decide) (rfl : 44 + 2 = 46) ?_
  refine g_ishl X0 hx hby d_hs4_46 (rfl : 46 + 1 = 47) ?_
  refine g_ior X0 hx hby d_hs4_47 (rfl : 47 + 1 = 48) ?_
  refine g_aloadN X0 hx hby d_hs4_48 rfl rfl (rfl : 48 + 1 = 49) ?_
  refine g_iloadN X0 hx hby d_hs4_49 rfl (rfl : 49 + 1 = 50) ?_
  refine g_iconst X0 hx hby (3 : Int32) d_hs4_50 (by decide) (rfl : 50 + 1 = 51) ?_
  refine g_iadd X0 hx hby d_hs4_51 (rfl : 51 + 1 = 52) ?_
  rw [(by decide : ((0 : Int32) + (3 : Int32)) = (3 : Int32))]
  refine g_baload X0 hx hby hZ e0 (v := (.int u3)) hp0 ⟨by decide, by decide⟩ rfl d_hs4_52 (rfl : 52 + 1 = 53) ?_
  refine g_bipush X0 hx hby (24 : Int32) d_hs4_53 (by decide) (rfl : 53 + 2 = 55) ?_
  refine g_ishl X0 hx hby d_hs4_55 (rfl : 55 + 1 = 56) ?_
  refine g_ior X0 hx hby d_hs4_56 (rfl : 56 + 1 = 57) ?_
  refine g_istore X0 hx hby #[.val (.ref a0), .val (.int (0 : Int32)), .val (.int (4 : Int32)), .val (.int (0 : Int32)), .val (.int ((((u0 &&& (255 : Int32)) ||| ((u1 &&& (255 : Int32)) <<< ((8 : Int32) &&& 31))) ||| ((u2 &&& (255 : Int32)) <<< ((16 : Int32) &&& 31))) ||| (u3 <<< ((24 : Int32) &&& 31))))] d_hs4_57 rfl (rfl : 57 + 2 = 59) ?_
  refine g_iloadN X0 hx hby d_hs4_59 rfl (rfl : 59 + 1 = 60) ?_
  refine g_iload X0 hx hby d_hs4_60 rfl (rfl : 60 + 2 = 62) ?_
  obtain ⟨_, _, ⟨T10, L10, k10, n10⟩, -, X10, ⟨Lc10, hQ10, l10, y10, z10⟩, st10⟩ := Jvm.LawKit.callS X0 hx (y := (⟨"com/example/farshard/farshard/store/Murmur3", "mixBlock", "(I)I"⟩ : MethodName)) hown (mvT hZ (hw _ (List.mem_of_getElem? (i := 17) rfl))) (mvT hZ (hw _ (List.mem_of_getElem? (i := 18) rfl))) (mvT hZ (hw _ (List.mem_of_getElem? (i := 4) rfl))) (mvT hZ (hw _ (List.mem_of_getElem? (i := 19) rfl))) (by decide) (backOf (W := 1) (rm_mix l Z aT hw [] ((((u0 &&& (255 : Int32)) ||| ((u1 &&& (255 : Int32)) <<< ((8 : Int32) &&& 31))) ||| ((u2 &&& (255 : Int32)) <<< ((16 : Int32) &&& 31))) ||| (u3 <<< ((24 : Int32) &&& 31))) h0 n0 Z0) hZ (hw _ (List.mem_of_getElem? (i := 19) rfl)) (hw _ (List.mem_of_getElem? (i := 4) rfl)) (by decide) (by decide)) (g := (mkF m 62 #[.val (.ref a0), .val (.int (0 : Int32)), .val (.int (4 : Int32)), .val (.int (0 : Int32)), .val (.int ((((u0 &&& (255 : Int32)) ||| ((u1 &&& (255 : Int32)) <<< ((8 : Int32) &&& 31))) ||| ((u2 &&& (255 : Int32)) <<< ((16 : Int32) &&& 31))) ||| (u3 <<< ((24 : Int32) &&& 31))))] [(.int ((((u0 &&& (255 : Int32)) ||| ((u1 &&& (255 : Int32)) <<< ((8 : Int32) &&& 31))) ||| ((u2 &&& (255 : Int32)) <<< ((16 : Int32) &&& 31))) ||| (u3 <<< ((24 : Int32) &&& 31)))), (.int (0 : Int32))])) rfl (by rw [hml]; rfl) (argsL := [(.int ((((u0 &&& (255 : Int32)) ||| ((u1 &&& (255 : Int32)) <<< ((8 : Int32) &&& 31))) ||| ((u2 &&& (255 : Int32)) <<< ((16 : Int32) &&& 31))) ||| (u3 <<< ((24 : Int32) &&& 31))))]) (rest := [(.int (0 : Int32))]) (lenOf pd1 rfl) rfl (by show 2 * 0 + _ ≤ _; exact Nat.le_of_eq rfl) (hb hby d_hs4_62) (fun _ _ => ⟨rfl, e0, (by decide : 0 + 0 ≤ _), (by decide : 0 + 0 ≤ _)⟩)
  dsimp only [Pt.U, Pt.locs, Pt.cells, Pt.slots] at X10 l10 y10 z10 st10 hQ10
  subst l10 y10 z10
  obtain ⟨rfl, N10q, eq10⟩ := hQ10
  have N10 := Fr.app N0 N10q
  refine own_go st10 ?_
  show own_Got p e below _ T10 (mkF m 65 #[.val (.ref a0), .val (.int (0 : Int32)), .val (.int (4 : Int32)), .val (.int (0 : Int32)), .val (.int ((((u0 &&& (255 : Int32)) ||| ((u1 &&& (255 : Int32)) <<< ((8 : Int32) &&& 31))) ||| ((u2 &&& (255 : Int32)) <<< ((16 : Int32) &&& 31))) ||| (u3 <<< ((24 : Int32) &&& 31))))] [(.int (F_mix ((((u0 &&& (255 : Int32)) ||| ((u1 &&& (255 : Int32)) <<< ((8 : Int32) &&& 31))) ||| ((u2 &&& (255 : Int32)) <<< ((16 : Int32) &&& 31))) ||| (u3 <<< ((24 : Int32) &&& 31))))), (.int (0 : Int32))])
  refine g_ixor X10 hx hby d_hs4_65 (rfl : 65 + 1 = 66) ?_
  refine g_istoreN X10 hx hby #[.val (.ref a0), .val (.int ((0 : Int32) ^^^ (F_mix ((((u0 &&& (255 : Int32)) ||| ((u1 &&& (255 : Int32)) <<< ((8 : Int32) &&& 31))) ||| ((u2 &&& (255 : Int32)) <<< ((16 : Int32) &&& 31))) ||| (u3 <<< ((24 : Int32) &&& 31)))))), .val (.int (4 : Int32)), .val (.int (0 : Int32)), .val (.int ((((u0 &&& (255 : Int32)) ||| ((u1 &&& (255 : Int32)) <<< ((8 : Int32) &&& 31))) ||| ((u2 &&& (255 : Int32)) <<< ((16 : Int32) &&& 31))) ||| (u3 <<< ((24 : Int32) &&& 31))))] d_hs4_66 rfl (rfl : 66 + 1 = 67) ?_
  refine g_iloadN X10 hx hby d_hs4_67 rfl (rfl : 67 + 1 = 68) ?_
  refine g_bipush X10 hx hby (13 : Int32) d_hs4_68 (by decide) (rfl : 68 + 2 = 70) ?_
  obtain ⟨_, _, ⟨T11, L11, k11, n11⟩, -, X11, ⟨Lc11, hQ11, l11, y11, z11⟩, st11⟩ := Jvm.LawKit.callS X10 hx (y := (⟨"java/lang/Integer", "rotateLeft", "(II)I"⟩ : MethodName)) hown (mvT hZ (hw _ (List.mem_of_getElem? (i := 21) rfl))) (mvT hZ (hw _ (List.mem_of_getElem? (i := 22) rfl))) (mvT hZ (hw _ (List.mem_of_getElem? (i := 23) rfl))) (mvT hZ (hw _ (List.mem_of_getElem? (i := 24) rfl))) (by decide) (backOf (W := 0) (rm_rot l Z aT hw [] ((0 : Int32) ^^^ (F_mix ((((u0 &&& (255 : Int32)) ||| ((u1 &&& (255 : Int32)) <<< ((8 : Int32) &&& 31))) ||| ((u2 &&& (255 : Int32)) <<< ((16 : Int32) &&& 31))) ||| (u3 <<< ((24 : Int32) &&& 31))))) (13 : Int32) h0 n0 Z0) hZ (hw _ (List.mem_of_getElem? (i := 24) rfl)) (hw _ (List.mem_of_getElem? (i := 23) rfl)) (by decide) (by decide)) (g := (mkF m 70 #[.val (.ref a0), .val (.int ((0 : Int32) ^^^ (F_mix ((((u0 &&& (255 : Int32)) ||| ((u1 &&& (255 : Int32)) <<< ((8 : Int32) &&& 31))) ||| ((u2 &&& (255 : Int32)) <<< ((16 : Int32) &&& 31))) ||| (u3 <<< ((24 : Int32) &&& 31)))))), .val (.int (4 : Int32)), .val (.int (0 : Int32)), .val (.int ((((u0 &&& (255 : Int32)) ||| ((u1 &&& (255 : Int32)) <<< ((8 : Int32) &&& 31))) ||| ((u2 &&& (255 : Int32)) <<< ((16 : Int32) &&& 31))) ||| (u3 <<< ((24 : Int32) &&& 31))))] [(.int (13 : Int32)), (.int ((0 : Int32) ^^^ (F_mix ((((u0 &&& (255 : Int32)) ||| ((u1 &&& (255 : Int32)) <<< ((8 : Int32) &&& 31))) ||| ((u2 &&& (255 : Int32)) <<< ((16 : Int32) &&& 31))) ||| (u3 <<< ((24 : Int32) &&& 31))))))])) rfl (by rw [hml]; rfl) (argsL := [(.int ((0 : Int32) ^^^ (F_mix ((((u0 &&& (255 : Int32)) ||| ((u1 &&& (255 : Int32)) <<< ((8 : Int32) &&& 31))) ||| ((u2 &&& (255 : Int32)) <<< ((16 : Int32) &&& 31))) ||| (u3 <<< ((24 : Int32) &&& 31)))))), (.int (13 : Int32))]) (rest := []) (lenOf pd0 rfl) rfl (by show 2 * 0 + _ ≤ _; exact Nat.le_of_eq rfl) (hb hby d_hs4_70) (fun _ _ => ⟨rfl, eq10, (by decide : 0 + 0 ≤ _), (by decide : 0 + 0 ≤ _)⟩)
  dsimp only [Pt.U, Pt.locs, Pt.cells, Pt.slots] at X11 l11 y11 z11 st11 hQ11
  subst l11 y11 z11
  obtain ⟨rfl, N11q, eq11⟩ := hQ11
  have N11 := Fr.app N10 N11q
  refine own_go st11 ?_
  show own_Got p e below _ T11 (mkF m 73 #[.val (.ref a0), .val (.int ((0 : Int32) ^^^ (F_mix ((((u0 &&& (255 : Int32)) ||| ((u1 &&& (255 : Int32)) <<< ((8 : Int32) &&& 31))) ||| ((u2 &&& (255 : Int32)) <<< ((16 : Int32) &&& 31))) ||| (u3 <<< ((24 : Int32) &&& 31)))))), .val (.int (4 : Int32)), .val (.int (0 : Int32)), .val (.int ((((u0 &&& (255 : Int32)) ||| ((u1 &&& (255 : Int32)) <<< ((8 : Int32) &&& 31))) ||| ((u2 &&& (255 : Int32)) <<< ((16 : Int32) &&& 31))) ||| (u3 <<< ((24 : Int32) &&& 31))))] [(.int (F_rot ((0 : Int32) ^^^ (F_mix ((((u0 &&& (255 : Int32)) ||| ((u1 &&& (255 : Int32)) <<< ((8 : Int32) &&& 31))) ||| ((u2 &&& (255 : Int32)) <<< ((16 : Int32) &&& 31))) ||| (u3 <<< ((24 : Int32) &&& 31))))) (13 : Int32)))])
  refine g_iconst X11 hx hby (5 : Int32) d_hs4_73 (by decide) (rfl : 73 + 1 = 74) ?_
  refine g_imul X11 hx hby d_hs4_74 (rfl : 74 + 1 = 75) ?_
  refine g_ldcI X11 hx hby hZ hown (hw _ (List.mem_of_getElem? (i := 31) rfl)) d_hs4_75 (rfl : 75 + 2 = 77) ?_
  refine g_iadd X11 hx hby d_hs4_77 (rfl : 77 + 1 = 78) ?_
  refine g_istoreN X11 hx hby #[.val (.ref a0), .val (.int (((F_rot ((0 : Int32) ^^^ (F_mix ((((u0 &&& (255 : Int32)) ||| ((u1 &&& (255 : Int32)) <<< ((8 : Int32) &&& 31))) ||| ((u2 &&& (255 : Int32)) <<< ((16 : Int32) &&& 31))) ||| (u3 <<< ((24 : Int32) &&& 31))))) (13 : Int32)) * (5 : Int32)) + (-430675100 : Int32))), .val (.int (4 : Int32)), .val (.int (0 : Int32)), .val (.int ((((u0 &&& (255 : Int32)) ||| ((u1 &&& (255 : Int32)) <<< ((8 : Int32) &&& 31))) ||| ((u2 &&& (255 : Int32)) <<< ((16 : Int32) &&& 31))) ||| (u3 <<< ((24 : Int32) &&& 31))))] d_hs4_78 rfl (rfl : 78 + 1 = 79) ?_
  refine g_iinc X11 hx hby #[.val (.ref a0), .val (.int (((F_rot ((0 : Int32) ^^^ (F_mix ((((u0 &&& (255 : Int32)) ||| ((u1 &&& (255 : Int32)) <<< ((8 : Int32) &&& 31))) ||| ((u2 &&& (255 : Int32)) <<< ((16 : Int32) &&& 31))) ||| (u3 <<< ((24 : Int32) &&& 31))))) (13 : Int32)) * (5 : Int32)) + (-430675100 : Int32))), .val (.int (4 : Int32)), .val (.int ((0 : Int32) + (4 : Int32))), .val (.int ((((u0 &&& (255 : Int32)) ||| ((u1 &&& (255 : Int32)) <<< ((8 : Int32) &&& 31))) ||| ((u2 &&& (255 : Int32)) <<< ((16 : Int32) &&& 31))) ||| (u3 <<< ((24 : Int32) &&& 31))))] d_hs4_79 rfl rfl (rfl : 79 + 3 = 82) ?_
  rw [(by decide : ((0 : Int32) + (4 : Int32)) = (4 : Int32))]
  refine g_goto X11 hx hby d_hs4_82 (by decide) (pc' := 10) (by decide) ?_
  refine g_iloadN X11 hx hby d_hs4_10 rfl (rfl : 10 + 1 = 11) ?_
  refine g_iloadN X11 hx hby d_hs4_11 rfl (rfl : 11 + 1 = 12) ?_
  refine g_icT X11 hx hby d_hs4_12 (flt (by decide : ¬ ((4 : Int32) < (4 : Int32)))).2.1 (by decide) (pc' := 85) (by decide) ?_
  refine g_aloadN X11 hx hby d_hs4_85 rfl rfl (rfl : 85 + 1 = 86) ?_
  refine g_alen X11 hx hby hZ eq11 hp0 d_hs4_86 (rfl : 86 + 1 = 87) ?_
  refine g_iconst X11 hx hby (3 : Int32) d_hs4_87 (by decide) (rfl : 87 + 1 = 88) ?_
  refine g_iand X11 hx hby d_hs4_88 (rfl : 88 + 1 = 89) ?_
  rw [(by decide : ((4 : Int32) &&& (3 : Int32)) = (0 : Int32))]
  refine g_istoreN X11 hx hby #[.val (.ref a0), .val (.int (((F_rot ((0 : Int32) ^^^ (F_mix ((((u0 &&& (255 : Int32)) ||| ((u1 &&& (255 : Int32)) <<< ((8 : Int32) &&& 31))) ||| ((u2 &&& (255 : Int32)) <<< ((16 : Int32) &&& 31))) ||| (u3 <<< ((24 : Int32) &&& 31))))) (13 : Int32)) * (5 : Int32)) + (-430675100 : Int32))), .val (.int (4 : Int32)), .val (.int (0 : Int32)), .val (.int ((((u0 &&& (255 : Int32)) ||| ((u1 &&& (255 : Int32)) <<< ((8 : Int32) &&& 31))) ||| ((u2 &&& (255 : Int32)) <<< ((16 : Int32) &&& 31))) ||| (u3 <<< ((24 : Int32) &&& 31))))] d_hs4_89 rfl (rfl : 89 + 1 = 90) ?_
  refine g_iloadN X11 hx hby d_hs4_90 rfl (rfl : 90 + 1 = 91) ?_
  refine g_ifT X11 hx hby d_hs4_91 ((if0 _ _).trans (flt (by decide : ¬ ((0 : Int32) < (0 : Int32)))).2.2.2) (by decide) (pc' := 155) (by decide) ?_
  refine g_iloadN X11 hx hby d_hs4_155 rfl (rfl : 155 + 1 = 156) ?_
  refine g_aloadN X11 hx hby d_hs4_156 rfl rfl (rfl : 156 + 1 = 157) ?_
  refine g_alen X11 hx hby hZ eq11 hp0 d_hs4_157 (rfl : 157 + 1 = 158) ?_
  refine g_ixor X11 hx hby d_hs4_158 (rfl : 158 + 1 = 159) ?_
  refine g_istoreN X11 hx hby #[.val (.ref a0), .val (.int ((((F_rot ((0 : Int32) ^^^ (F_mix ((((u0 &&& (255 : Int32)) ||| ((u1 &&& (255 : Int32)) <<< ((8 : Int32) &&& 31))) ||| ((u2 &&& (255 : Int32)) <<< ((16 : Int32) &&& 31))) ||| (u3 <<< ((24 : Int32) &&& 31))))) (13 : Int32)) * (5 : Int32)) + (-430675100 : Int32)) ^^^ (4 : Int32))), .val (.int (4 : Int32)), .val (.int (0 : Int32)), .val (.int ((((u0 &&& (255 : Int32)) ||| ((u1 &&& (255 : Int32)) <<< ((8 : Int32) &&& 31))) ||| ((u2 &&& (255 : Int32)) <<< ((16 : Int32) &&& 31))) ||| (u3 <<< ((24 : Int32) &&& 31))))] d_hs4_159 rfl (rfl : 159 + 1 = 160) ?_
  refine g_iloadN X11 hx hby d_hs4_160 rfl (rfl : 160 + 1 = 161) ?_
  refine g_iloadN X11 hx hby d_hs4_161 rfl (rfl : 161 + 1 = 162) ?_
  refine g_bipush X11 hx hby (16 : Int32) d_hs4_162 (by decide) (rfl : 162 + 2 = 164) ?_
  refine g_iushr X11 hx hby d_hs4_164 (rfl : 164 + 1 = 165) ?_
  refine g_ixor X11 hx hby d_hs4_165 (rfl : 165 + 1 = 166) ?_
  refine g_istoreN X11 hx hby #[.val (.ref a0), .val (.int (((((F_rot ((0 : Int32) ^^^ (F_mix ((((u0 &&& (255 : Int32)) ||| ((u1 &&& (255 : Int32)) <<< ((8 : Int32) &&& 31))) ||| ((u2 &&& (255 : Int32)) <<< ((16 : Int32) &&& 31))) ||| (u3 <<< ((24 : Int32) &&& 31))))) (13 : Int32)) * (5 : Int32)) + (-430675100 : Int32)) ^^^ (4 : Int32)) ^^^ ((((((F_rot ((0 : Int32) ^^^ (F_mix ((((u0 &&& (255 : Int32)) ||| ((u1 &&& (255 : Int32)) <<< ((8 : Int32) &&& 31))) ||| ((u2 &&& (255 : Int32)) <<< ((16 : Int32) &&& 31))) ||| (u3 <<< ((24 : Int32) &&& 31))))) (13 : Int32)) * (5 : Int32)) + (-430675100 : Int32)) ^^^ (4 : Int32)).toUInt32 >>> ((16 : Int32) &&& 31).toUInt32).toInt32))), .val (.int (4 : Int32)), .val (.int (0 : Int32)), .val (.int ((((u0 &&& (255 : Int32)) ||| ((u1 &&& (255 : Int32)) <<< ((8 : Int32) &&& 31))) ||| ((u2 &&& (255 : Int32)) <<< ((16 : Int32) &&& 31))) ||| (u3 <<< ((24 : Int32) &&& 31))))] d_hs4_166 rfl (rfl : 166 + 1 = 167) ?_
  refine g_iloadN X11 hx hby d_hs4_167 rfl (rfl : 167 + 1 = 168) ?_
  refine g_ldcI X11 hx hby hZ hown (hw _ (List.mem_of_getElem? (i := 6) rfl)) d_hs4_168 (rfl : 168 + 2 = 170) ?_
  refine g_imul X11 hx hby d_hs4_170 (rfl : 170 + 1 = 171) ?_
  refine g_istoreN X11 hx hby #[.val (.ref a0), .val (.int ((((((F_rot ((0 : Int32) ^^^ (F_mix ((((u0 &&& (255 : Int32)) ||| ((u1 &&& (255 : Int32)) <<< ((8 : Int32) &&& 31))) ||| ((u2 &&& (255 : Int32)) <<< ((16 : Int32) &&& 31))) ||| (u3 <<< ((24 : Int32) &&& 31))))) (13 : Int32)) * (5 : Int32)) + (-430675100 : Int32)) ^^^ (4 : Int32)) ^^^ ((((((F_rot ((0 : Int32) ^^^ (F_mix ((((u0 &&& (255 : Int32)) ||| ((u1 &&& (255 : Int32)) <<< ((8 : Int32) &&& 31))) ||| ((u2 &&& (255 : Int32)) <<< ((16 : Int32) &&& 31))) ||| (u3 <<< ((24 : Int32) &&& 31))))) (13 : Int32)) * (5 : Int32)) + (-430675100 : Int32)) ^^^ (4 : Int32)).toUInt32 >>> ((16 : Int32) &&& 31).toUInt32).toInt32)) * (-2048144789 : Int32))), .val (.int (4 : Int32)), .val (.int (0 : Int32)), .val (.int ((((u0 &&& (255 : Int32)) ||| ((u1 &&& (255 : Int32)) <<< ((8 : Int32) &&& 31))) ||| ((u2 &&& (255 : Int32)) <<< ((16 : Int32) &&& 31))) ||| (u3 <<< ((24 : Int32) &&& 31))))] d_hs4_171 rfl (rfl : 171 + 1 = 172) ?_
  refine g_iloadN X11 hx hby d_hs4_172 rfl (rfl : 172 + 1 = 173) ?_
  refine g_iloadN X11 hx hby d_hs4_173 rfl (rfl : 173 + 1 = 174) ?_
  refine g_bipush X11 hx hby (13 : Int32) d_hs4_174 (by decide) (rfl : 174 + 2 = 176) ?_
  refine g_iushr X11 hx hby d_hs4_176 (rfl : 176 + 1 = 177) ?_
  refine g_ixor X11 hx hby d_hs4_177 (rfl : 177 + 1 = 178) ?_
  refine g_istoreN X11 hx hby #[.val (.ref a0), .val (.int (((((((F_rot ((0 : Int32) ^^^ (F_mix ((((u0 &&& (255 : Int32)) ||| ((u1 &&& (255 : Int32)) <<< ((8 : Int32) &&& 31))) ||| ((u2 &&& (255 : Int32)) <<< ((16 : Int32) &&& 31))) ||| (u3 <<< ((24 : Int32) &&& 31))))) (13 : Int32)) * (5 : Int32)) + (-430675100 : Int32)) ^^^ (4 : Int32)) ^^^ ((((((F_rot ((0 : Int32) ^^^ (F_mix ((((u0 &&& (255 : Int32)) ||| ((u1 &&& (255 : Int32)) <<< ((8 : Int32) &&& 31))) ||| ((u2 &&& (255 : Int32)) <<< ((16 : Int32) &&& 31))) ||| (u3 <<< ((24 : Int32) &&& 31))))) (13 : Int32)) * (5 : Int32)) + (-430675100 : Int32)) ^^^ (4 : Int32)).toUInt32 >>> ((16 : Int32) &&& 31).toUInt32).toInt32)) * (-2048144789 : Int32)) ^^^ ((((((((F_rot ((0 : Int32) ^^^ (F_mix ((((u0 &&& (255 : Int32)) ||| ((u1 &&& (255 : Int32)) <<< ((8 : Int32) &&& 31))) ||| ((u2 &&& (255 : Int32)) <<< ((16 : Int32) &&& 31))) ||| (u3 <<< ((24 : Int32) &&& 31))))) (13 : Int32)) * (5 : Int32)) + (-430675100 : Int32)) ^^^ (4 : Int32)) ^^^ ((((((F_rot ((0 : Int32) ^^^ (F_mix ((((u0 &&& (255 : Int32)) ||| ((u1 &&& (255 : Int32)) <<< ((8 : Int32) &&& 31))) ||| ((u2 &&& (255 : Int32)) <<< ((16 : Int32) &&& 31))) ||| (u3 <<< ((24 : Int32) &&& 31))))) (13 : Int32)) * (5 : Int32)) + (-430675100 : Int32)) ^^^ (4 : Int32)).toUInt32 >>> ((16 : Int32) &&& 31).toUInt32).toInt32)) * (-2048144789 : Int32)).toUInt32 >>> ((13 : Int32) &&& 31).toUInt32).toInt32))), .val (.int (4 : Int32)), .val (.int (0 : Int32)), .val (.int ((((u0 &&& (255 : Int32)) ||| ((u1 &&& (255 : Int32)) <<< ((8 : Int32) &&& 31))) ||| ((u2 &&& (255 : Int32)) <<< ((16 : Int32) &&& 31))) ||| (u3 <<< ((24 : Int32) &&& 31))))] d_hs4_178 rfl (rfl : 178 + 1 = 179) ?_
  refine g_iloadN X11 hx hby d_hs4_179 rfl (rfl : 179 + 1 = 180) ?_
  refine g_ldcI X11 hx hby hZ hown (hw _ (List.mem_of_getElem? (i := 7) rfl)) d_hs4_180 (rfl : 180 + 2 = 182) ?_
  refine g_imul X11 hx hby d_hs4_182 (rfl : 182 + 1 = 183) ?_
  refine g_istoreN X11 hx hby #[.val (.ref a0), .val (.int ((((((((F_rot ((0 : Int32) ^^^ (F_mix ((((u0 &&& (255 : Int32)) ||| ((u1 &&& (255 : Int32)) <<< ((8 : Int32) &&& 31))) ||| ((u2 &&& (255 : Int32)) <<< ((16 : Int32) &&& 31))) ||| (u3 <<< ((24 : Int32) &&& 31))))) (13 : Int32)) * (5 : Int32)) + (-430675100 : Int32)) ^^^ (4 : Int32)) ^^^ ((((((F_rot ((0 : Int32) ^^^ (F_mix ((((u0 &&& (255 : Int32)) ||| ((u1 &&& (255 : Int32)) <<< ((8 : Int32) &&& 31))) ||| ((u2 &&& (255 : Int32)) <<< ((16 : Int32) &&& 31))) ||| (u3 <<< ((24 : Int32) &&& 31))))) (13 : Int32)) * (5 : Int32)) + (-430675100 : Int32)) ^^^ (4 : Int32)).toUInt32 >>> ((16 : Int32) &&& 31).toUInt32).toInt32)) * (-2048144789 : Int32)) ^^^ ((((((((F_rot ((0 : Int32) ^^^ (F_mix ((((u0 &&& (255 : Int32)) ||| ((u1 &&& (255 : Int32)) <<< ((8 : Int32) &&& 31))) ||| ((u2 &&& (255 : Int32)) <<< ((16 : Int32) &&& 31))) ||| (u3 <<< ((24 : Int32) &&& 31))))) (13 : Int32)) * (5 : Int32)) + (-430675100 : Int32)) ^^^ (4 : Int32)) ^^^ ((((((F_rot ((0 : Int32) ^^^ (F_mix ((((u0 &&& (255 : Int32)) ||| ((u1 &&& (255 : Int32)) <<< ((8 : Int32) &&& 31))) ||| ((u2 &&& (255 : Int32)) <<< ((16 : Int32) &&& 31))) ||| (u3 <<< ((24 : Int32) &&& 31))))) (13 : Int32)) * (5 : Int32)) + (-430675100 : Int32)) ^^^ (4 : Int32)).toUInt32 >>> ((16 : Int32) &&& 31).toUInt32).toInt32)) * (-2048144789 : Int32)).toUInt32 >>> ((13 : Int32) &&& 31).toUInt32).toInt32)) * (-1028477387 : Int32))), .val (.int (4 : Int32)), .val (.int (0 : Int32)), .val (.int ((((u0 &&& (255 : Int32)) ||| ((u1 &&& (255 : Int32)) <<< ((8 : Int32) &&& 31))) ||| ((u2 &&& (255 : Int32)) <<< ((16 : Int32) &&& 31))) ||| (u3 <<< ((24 : Int32) &&& 31))))] d_hs4_183 rfl (rfl : 183 + 1 = 184) ?_
  refine g_iloadN X11 hx hby d_hs4_184 rfl (rfl : 184 + 1 = 185) ?_
  refine g_iloadN X11 hx hby d_hs4_185 rfl (rfl : 185 + 1 = 186) ?_
  refine g_bipush X11 hx hby (16 : Int32) d_hs4_186 (by decide) (rfl : 186 + 2 = 188) ?_
  refine g_iushr X11 hx hby d_hs4_188 (rfl : 188 + 1 = 189) ?_
  refine g_ixor X11 hx hby d_hs4_189 (rfl : 189 + 1 = 190) ?_
  refine own_retI X11 hx hby hlk hrt d_hs4_190 (by decide) (by decide) ?_
  show Q_hs4 Z a0 kk u0 u1 u2 u3 h0 n0 _ T11.heap _
  exact ⟨rfl, N11, eq11⟩
theorem d_hs5_0 : decode prog_62_method_2_code 0 = .ok (.iconst 0, 1) := by decide +kernel
theorem d_hs5_1 : decode prog_62_method_2_code 1 = .ok (.istore_n 1, 1) := by decide +kernel
theorem d_hs5_2 : decode prog_62_method_2_code 2 = .ok (.aload_n 0, 1) := by decide +kernel
theorem d_hs5_3 : decode prog_62_method_2_code 3 = .ok (.arraylength, 1) := by decide +kernel
theorem d_hs5_4 : decode prog_62_method_2_code 4 = .ok (.bipush (-4), 2) := by decide +kernel
theorem d_hs5_6 : decode prog_62_method_2_code 6 = .ok (.iand, 1) := by decide +kernel
theorem d_hs5_7 : decode prog_62_method_2_code 7 = .ok (.istore_n 2, 1) := by decide +kernel
theorem d_hs5_8 : decode prog_62_method_2_code 8 = .ok (.iconst 0, 1) := by decide +kernel
theorem d_hs5_9 : decode prog_62_method_2_code 9 = .ok (.istore_n 3, 1) := by decide +kernel
theorem d_hs5_10 : decode prog_62_method_2_code 10 = .ok (.iload_n 3, 1) := by decide +kernel
theorem d_hs5_11 : decode prog_62_method_2_code 11 = .ok (.iload_n 2, 1) := by decide +kernel
theorem d_hs5_12 : decode prog_62_method_2_code 12 = .ok (.if_icmp .ge 73, 3) := by decide +kernel
theorem d_hs5_15 : decode prog_62_method_2_code 15 = .ok (.aload_n 0, 1) := by decide +kernel
theorem d_hs5_16 : decode prog_62_method_2_code 16 = .ok (.iload_n 3, 1) := by decide +kernel
theorem d_hs5_17 : decode prog_62_method_2_code 17 = .ok (.baload, 1) := by decide +kernel
theorem d_hs5_18 : decode prog_62_method_2_code 18 = .ok (.sipush 255, 3) := by decide +kernel
theorem d_hs5_21 : decode prog_62_method_2_code 21 = .ok (.iand, 1) := by decide +kernel
theorem d_hs5_22 : decode prog_62_method_2_code 22 = .ok (.aload_n 0, 1) := by decide +kernel
theorem d_hs5_23 : decode prog_62_method_2_code 23 = .ok (.iload_n 3, 1) := by decide +kernel
theorem d_hs5_24 : decode prog_62_method_2_code 24 = .ok (.iconst 1, 1) := by decide +kernel
theorem d_hs5_25 : decode prog_62_method_2_code 25 = .ok (.iadd, 1) := by decide +kernel
theorem d_hs5_26 : decode prog_62_method_2_code 26 = .ok (.baload, 1) := by decide +kernel
theorem d_hs5_27 : decode prog_62_method_2_code 27 = .ok (.sipush 255, 3) := by decide +kernel
theorem d_hs5_30 : decode prog_62_method_2_code 30 = .ok (.iand, 1) := by decide +kernel
theorem d_hs5_31 : decode prog_62_method_2_code 31 = .ok (.bipush 8, 2) := by decide +kernel
theorem d_hs5_33 : decode prog_62_method_2_code 33 = .ok (.ishl, 1) := by decide +kernel
theorem d_hs5_34 : decode prog_62_method_2_code 34 = .ok (.ior, 1) := by decide +kernel
theorem d_hs5_35 : decode prog_62_method_2_code 35 = .ok (.aload_n 0, 1) := by decide +kernel
theorem d_hs5_36 : decode prog_62_method_2_code 36 = .ok (.iload_n 3, 1) := by decide +kernel
theorem d_hs5_37 : decode prog_62_method_2_code 37 = .ok (.iconst 2, 1) := by decide +kernel
theorem d_hs5_38 : decode prog_62_method_2_code 38 = .ok (.iadd, 1) := by decide +kernel
theorem d_hs5_39 : decode prog_62_method_2_code 39 = .ok (.baload, 1) := by decide +kernel
theorem d_hs5_40 : decode prog_62_method_2_code 40 = .ok (.sipush 255, 3) := by decide +kernel
theorem d_hs5_43 : decode prog_62_method_2_code 43 = .ok (.iand, 1) := by decide +kernel
theorem d_hs5_44 : decode prog_62_method_2_code 44 = .ok (.bipush 16, 2) := by decide +kernel
theorem d_hs5_46 : decode prog_62_method_2_code 46 = .ok (.ishl, 1) := by decide +kernel
theorem d_hs5_47 : decode prog_62_method_2_code 47 = .ok (.ior, 1) := by decide +kernel
theorem d_hs5_48 : decode prog_62_method_2_code 48 = .ok (.aload_n 0, 1) := by decide +kernel
theorem d_hs5_49 : decode prog_62_method_2_code 49 = .ok (.iload_n 3, 1) := by decide +kernel
theorem d_hs5_50 : decode prog_62_method_2_code 50 = .ok (.iconst 3, 1) := by decide +kernel
theorem d_hs5_51 : decode prog_62_method_2_code 51 = .ok (.iadd, 1) := by decide +kernel
theorem d_hs5_52 : decode prog_62_method_2_code 52 = .ok (.baload, 1) := by decide +kernel
theorem d_hs5_53 : decode prog_62_method_2_code 53 = .ok (.bipush 24, 2) := by decide +kernel
theorem d_hs5_55 : decode prog_62_method_2_code 55 = .ok (.ishl, 1) := by decide +kernel
theorem d_hs5_56 : decode prog_62_method_2_code 56 = .ok (.ior, 1) := by decide +kernel
theorem d_hs5_57 : decode prog_62_method_2_code 57 = .ok (.istore 4, 2) := by decide +kernel
theorem d_hs5_59 : decode prog_62_method_2_code 59 = .ok (.iload_n 1, 1) := by decide +kernel
theorem d_hs5_60 : decode prog_62_method_2_code 60 = .ok (.iload 4, 2) := by decide +kernel
theorem d_hs5_62 : decode prog_62_method_2_code 62 = .ok (.invokestatic 7, 3) := by decide +kernel
theorem d_hs5_65 : decode prog_62_method_2_code 65 = .ok (.ixor, 1) := by decide +kernel
theorem d_hs5_66 : decode prog_62_method_2_code 66 = .ok (.istore_n 1, 1) := by decide +kernel
theorem d_hs5_67 : decode prog_62_method_2_code 67 = .ok (.iload_n 1, 1) := by decide +kernel
theorem d_hs5_68 : decode prog_62_method_2_code 68 = .ok (.bipush 13, 2) := by decide +kernel
theorem d_hs5_70 : decode prog_62_method_2_code 70 = .ok (.invokestatic 13, 3) := by decide +kernel
theorem d_hs5_73 : decode prog_62_method_2_code 73 = .ok (.iconst 5, 1) := by decide +kernel
theorem d_hs5_74 : decode prog_62_method_2_code 74 = .ok (.imul, 1) := by decide +kernel
theorem d_hs5_75 : decode prog_62_method_2_code 75 = .ok (.ldc 19, 2) := by decide +kernel
theorem d_hs5_77 : decode prog_62_method_2_code 77 = .ok (.iadd, 1) := by decide +kernel
theorem d_hs5_78 : decode prog_62_method_2_code 78 = .ok (.istore_n 1, 1) := by decide +kernel
theorem d_hs5_79 : decode prog_62_method_2_code 79 = .ok (.iinc 3 4, 3) := by decide +kernel
theorem d_hs5_82 : decode prog_62_method_2_code 82 = .ok (.goto (-72), 3) := by decide +kernel
theorem d_hs5_85 : decode prog_62_method_2_code 85 = .ok (.aload_n 0, 1) := by decide +kernel
theorem d_hs5_86 : decode prog_62_method_2_code 86 = .ok (.arraylength, 1) := by decide +kernel
theorem d_hs5_87 : decode prog_62_method_2_code 87 = .ok (.iconst 3, 1) := by decide +kernel
theorem d_hs5_88 : decode prog_62_method_2_code 88 = .ok (.iand, 1) := by decide +kernel
theorem d_hs5_89 : decode prog_62_method_2_code 89 = .ok (.istore_n 3, 1) := by decide +kernel
theorem d_hs5_90 : decode prog_62_method_2_code 90 = .ok (.iload_n 3, 1) := by decide +kernel
theorem d_hs5_91 : decode prog_62_method_2_code 91 = .ok (.ifCond .le 64, 3) := by decide +kernel
theorem d_hs5_94 : decode prog_62_method_2_code 94 = .ok (.aload_n 0, 1) := by decide +kernel
theorem d_hs5_95 : decode prog_62_method_2_code 95 = .ok (.iload_n 2, 1) := by decide +kernel
theorem d_hs5_96 : decode prog_62_method_2_code 96 = .ok (.baload, 1) := by decide +kernel
theorem d_hs5_97 : decode prog_62_method_2_code 97 = .ok (.sipush 255, 3) := by decide +kernel
theorem d_hs5_100 : decode prog_62_method_2_code 100 = .ok (.iand, 1) := by decide +kernel
theorem d_hs5_101 : decode prog_62_method_2_code 101 = .ok (.istore 4, 2) := by decide +kernel
theorem d_hs5_103 : decode prog_62_method_2_code 103 = .ok (.iload_n 3, 1) := by decide +kernel
theorem d_hs5_104 : decode prog_62_method_2_code 104 = .ok (.iconst 1, 1) := by decide +kernel
theorem d_hs5_105 : decode prog_62_method_2_code 105 = .ok (.if_icmp .le 20, 3) := by decide +kernel
theorem d_hs5_125 : decode prog_62_method_2_code 125 = .ok (.iload_n 3, 1) := by decide +kernel
theorem d_hs5_126 : decode prog_62_method_2_code 126 = .ok (.iconst 2, 1) := by decide +kernel
theorem d_hs5_127 : decode prog_62_method_2_code 127 = .ok (.if_icmp .le 20, 3) := by decide +kernel
theorem d_hs5_147 : decode prog_62_method_2_code 147 = .ok (.iload_n 1, 1) := by decide +kernel
theorem d_hs5_148 : decode prog_62_method_2_code 148 = .ok (.iload 4, 2) := by decide +kernel
theorem d_hs5_150 : decode prog_62_method_2_code 150 = .ok (.invokestatic 7, 3) := by decide +kernel
theorem d_hs5_153 : decode prog_62_method_2_code 153 = .ok (.ixor, 1) := by decide +kernel
theorem d_hs5_154 : decode prog_62_method_2_code 154 = .ok (.istore_n 1, 1) := by decide +kernel
theorem d_hs5_155 : decode prog_62_method_2_code 155 = .ok (.iload_n 1, 1) := by decide +kernel
theorem d_hs5_156 : decode prog_62_method_2_code 156 = .ok (.aload_n 0, 1) := by decide +kernel
theorem d_hs5_157 : decode prog_62_method_2_code 157 = .ok (.arraylength, 1) := by decide +kernel
theorem d_hs5_158 : decode prog_62_method_2_code 158 = .ok (.ixor, 1) := by decide +kernel
theorem d_hs5_159 : decode prog_62_method_2_code 159 = .ok (.istore_n 1, 1) := by decide +kernel
theorem d_hs5_160 : decode prog_62_method_2_code 160 = .ok (.iload_n 1, 1) := by decide +kernel
theorem d_hs5_161 : decode prog_62_method_2_code 161 = .ok (.iload_n 1, 1) := by decide +kernel
theorem d_hs5_162 : decode prog_62_method_2_code 162 = .ok (.bipush 16, 2) := by decide +kernel
theorem d_hs5_164 : decode prog_62_method_2_code 164 = .ok (.iushr, 1) := by decide +kernel
theorem d_hs5_165 : decode prog_62_method_2_code 165 = .ok (.ixor, 1) := by decide +kernel
theorem d_hs5_166 : decode prog_62_method_2_code 166 = .ok (.istore_n 1, 1) := by decide +kernel
theorem d_hs5_167 : decode prog_62_method_2_code 167 = .ok (.iload_n 1, 1) := by decide +kernel
theorem d_hs5_168 : decode prog_62_method_2_code 168 = .ok (.ldc 20, 2) := by decide +kernel
theorem d_hs5_170 : decode prog_62_method_2_code 170 = .ok (.imul, 1) := by decide +kernel
theorem d_hs5_171 : decode prog_62_method_2_code 171 = .ok (.istore_n 1, 1) := by decide +kernel
theorem d_hs5_172 : decode prog_62_method_2_code 172 = .ok (.iload_n 1, 1) := by decide +kernel
theorem d_hs5_173 : decode prog_62_method_2_code 173 = .ok (.iload_n 1, 1) := by decide +kernel
theorem d_hs5_174 : decode prog_62_method_2_code 174 = .ok (.bipush 13, 2) := by decide +kernel
theorem d_hs5_176 : decode prog_62_method_2_code 176 = .ok (.iushr, 1) := by decide +kernel
theorem d_hs5_177 : decode prog_62_method_2_code 177 = .ok (.ixor, 1) := by decide +kernel
theorem d_hs5_178 : decode prog_62_method_2_code 178 = .ok (.istore_n 1, 1) := by decide +kernel
theorem d_hs5_179 : decode prog_62_method_2_code 179 = .ok (.iload_n 1, 1) := by decide +kernel
theorem d_hs5_180 : decode prog_62_method_2_code 180 = .ok (.ldc 21, 2) := by decide +kernel
theorem d_hs5_182 : decode prog_62_method_2_code 182 = .ok (.imul, 1) := by decide +kernel
theorem d_hs5_183 : decode prog_62_method_2_code 183 = .ok (.istore_n 1, 1) := by decide +kernel
theorem d_hs5_184 : decode prog_62_method_2_code 184 = .ok (.iload_n 1, 1) := by decide +kernel
theorem d_hs5_185 : decode prog_62_method_2_code 185 = .ok (.iload_n 1, 1) := by decide +kernel
theorem d_hs5_186 : decode prog_62_method_2_code 186 = .ok (.bipush 16, 2) := by decide +kernel
theorem d_hs5_188 : decode prog_62_method_2_code 188 = .ok (.iushr, 1) := by decide +kernel
theorem d_hs5_189 : decode prog_62_method_2_code 189 = .ok (.ixor, 1) := by decide +kernel
theorem d_hs5_190 : decode prog_62_method_2_code 190 = .ok (.ireturn, 1) := by decide +kernel
theorem ef_hs5 (m : MethodId) (a0 : Addr) : entryFrame m #[(.ref a0)] 5 = mkF m 0 #[.val (.ref a0), .unset, .unset, .unset, .unset] [] := by first | (simp [entryFrame, mkF, argsToLocals, Value.category]; done) | rfl
def F_hs5 (u0 : Int32) (u1 : Int32) (u2 : Int32) (u3 : Int32) (u4 : Int32) : Int32 := ((((((((((F_rot ((0 : Int32) ^^^ (F_mix ((((u0 &&& (255 : Int32)) ||| ((u1 &&& (255 : Int32)) <<< ((8 : Int32) &&& 31))) ||| ((u2 &&& (255 : Int32)) <<< ((16 : Int32) &&& 31))) ||| (u3 <<< ((24 : Int32) &&& 31))))) (13 : Int32)) * (5 : Int32)) + (-430675100 : Int32)) ^^^ (F_mix (u4 &&& (255 : Int32)))) ^^^ (5 : Int32)) ^^^ (((((((F_rot ((0 : Int32) ^^^ (F_mix ((((u0 &&& (255 : Int32)) ||| ((u1 &&& (255 : Int32)) <<< ((8 : Int32) &&& 31))) ||| ((u2 &&& (255 : Int32)) <<< ((16 : Int32) &&& 31))) ||| (u3 <<< ((24 : Int32) &&& 31))))) (13 : Int32)) * (5 : Int32)) + (-430675100 : Int32)) ^^^ (F_mix (u4 &&& (255 : Int32)))) ^^^ (5 : Int32)).toUInt32 >>> ((16 : Int32) &&& 31).toUInt32).toInt32)) * (-2048144789 : Int32)) ^^^ (((((((((F_rot ((0 : Int32) ^^^ (F_mix ((((u0 &&& (255 : Int32)) ||| ((u1 &&& (255 : Int32)) <<< ((8 : Int32) &&& 31))) ||| ((u2 &&& (255 : Int32)) <<< ((16 : Int32) &&& 31))) ||| (u3 <<< ((24 : Int32) &&& 31))))) (13 : Int32)) * (5 : Int32)) + (-430675100 : Int32)) ^^^ (F_mix (u4 &&& (255 : Int32)))) ^^^ (5 : Int32)) ^^^ (((((((F_rot ((0 : Int32) ^^^ (F_mix ((((u0 &&& (255 : Int32)) ||| ((u1 &&& (255 : Int32)) <<< ((8 : Int32) &&& 31))) ||| ((u2 &&& (255 : Int32)) <<< ((16 : Int32) &&& 31))) ||| (u3 <<< ((24 : Int32) &&& 31))))) (13 : Int32)) * (5 : Int32)) + (-430675100 : Int32)) ^^^ (F_mix (u4 &&& (255 : Int32)))) ^^^ (5 : Int32)).toUInt32 >>> ((16 : Int32) &&& 31).toUInt32).toInt32)) * (-2048144789 : Int32)).toUInt32 >>> ((13 : Int32) &&& 31).toUInt32).toInt32)) * (-1028477387 : Int32)) ^^^ (((((((((((F_rot ((0 : Int32) ^^^ (F_mix ((((u0 &&& (255 : Int32)) ||| ((u1 &&& (255 : Int32)) <<< ((8 : Int32) &&& 31))) ||| ((u2 &&& (255 : Int32)) <<< ((16 : Int32) &&& 31))) ||| (u3 <<< ((24 : Int32) &&& 31))))) (13 : Int32)) * (5 : Int32)) + (-430675100 : Int32)) ^^^ (F_mix (u4 &&& (255 : Int32)))) ^^^ (5 : Int32)) ^^^ (((((((F_rot ((0 : Int32) ^^^ (F_mix ((((u0 &&& (255 : Int32)) ||| ((u1 &&& (255 : Int32)) <<< ((8 : Int32) &&& 31))) ||| ((u2 &&& (255 : Int32)) <<< ((16 : Int32) &&& 31))) ||| (u3 <<< ((24 : Int32) &&& 31))))) (13 : Int32)) * (5 : Int32)) + (-430675100 : Int32)) ^^^ (F_mix (u4 &&& (255 : Int32)))) ^^^ (5 : Int32)).toUInt32 >>> ((16 : Int32) &&& 31).toUInt32).toInt32)) * (-2048144789 : Int32)) ^^^ (((((((((F_rot ((0 : Int32) ^^^ (F_mix ((((u0 &&& (255 : Int32)) ||| ((u1 &&& (255 : Int32)) <<< ((8 : Int32) &&& 31))) ||| ((u2 &&& (255 : Int32)) <<< ((16 : Int32) &&& 31))) ||| (u3 <<< ((24 : Int32) &&& 31))))) (13 : Int32)) * (5 : Int32)) + (-430675100 : Int32)) ^^^ (F_mix (u4 &&& (255 : Int32)))) ^^^ (5 : Int32)) ^^^ (((((((F_rot ((0 : Int32) ^^^ (F_mix ((((u0 &&& (255 : Int32)) ||| ((u1 &&& (255 : Int32)) <<< ((8 : Int32) &&& 31))) ||| ((u2 &&& (255 : Int32)) <<< ((16 : Int32) &&& 31))) ||| (u3 <<< ((24 : Int32) &&& 31))))) (13 : Int32)) * (5 : Int32)) + (-430675100 : Int32)) ^^^ (F_mix (u4 &&& (255 : Int32)))) ^^^ (5 : Int32)).toUInt32 >>> ((16 : Int32) &&& 31).toUInt32).toInt32)) * (-2048144789 : Int32)).toUInt32 >>> ((13 : Int32) &&& 31).toUInt32).toInt32)) * (-1028477387 : Int32)).toUInt32 >>> ((16 : Int32) &&& 31).toUInt32).toInt32))
def Q_hs5 (Z : State) (a0 : Addr) (kk : ClassId) (u0 : Int32) (u1 : Int32) (u2 : Int32) (u3 : Int32) (u4 : Int32) (h0 : Heap) (n0 : Nat) (v : Option Value) (h : Heap) (L : List Loc) : Prop := v = some (.int (F_hs5 u0 u1 u2 u3 u4)) ∧ Fr n0 L ∧ h = h0
set_option maxRecDepth 65536 in
set_option maxHeartbeats 40000000 in
theorem rm_hs5 (l : Launch) (Z : State) (aT : Array Value) (hw : ∀ d ∈ tables_1, d.before aT Z = true) (ws : List Jvm.Cond) (a0 : Addr) (kk : ClassId) (u0 : Int32) (u1 : Int32) (u2 : Int32) (u3 : Int32) (u4 : Int32) (h0 : Heap) (n0 : Nat) (Z0 : n0 ≤ h0.size) (hp0 : Arv Z h0 a0 kk .byte (5 : Int32) [(.int u0), (.int u1), (.int u2), (.int u3), (.int u4)] (.int (0 : Int32))) :
    MetFree l (⟨"com/example/farshard/farshard/store/Murmur3", "hash32", "([B)I"⟩ : MethodName) (head1 (Jvm.Cond.code (⟨"com/example/farshard/farshard/store/Murmur3", "hash32", "([B)I"⟩ : MethodName) prog_62_method_2_code 5 (some .int) :: ws) ({ frames := 2, cells := 0, slots := 0, locals := 26 } : Room)) (fun a U => a = #[(.ref a0)] ∧ Z.Warmed39 U.vm ∧ U.heap = h0) (fun _ _ _ _ _ => True) (fun _ U o U' => ∃ v L, o = .returned v ∧ Q_hs5 Z a0 kk u0 u1 u2 u3 u4 h0 n0 v U'.heap L ∧ FrameEnd U o U' L ({ frames := 2, cells := 0, slots := 0, locals := 26 } : Room).cells ({ frames := 2, cells := 0, slots := 0, locals := 26 } : Room).slots) := by
  refine MetFree.of_bodySF (plainFor_of_name pn1) hisR ?_
  intro p e s m args below meth c s₁ Bd hml0 hP hK
  obtain ⟨rfl, hZ, hh⟩ := hP
  have hx := Bd.exec
  have hby := Bd.bytes
  have hml : c.maxLocals = 5 := hml0
  have hown : s.vm.findClass "com/example/farshard/farshard/store/Murmur3" = some m.cls := findClass_of_methodNamed Bd.named
  have hnm := (name_of_methodNamed Bd.named Bd.method).1
  have hlk := Bd.notSynchronized
  have hrt := Bd.returns
  have X0 : Stand p l e ({ frames := 2, cells := 0, slots := 0, locals := 26 } : Room) s m #[(.ref a0)] below meth c s₁ [] 0 0 := Stand.of_body Bd
  have e0 : s₁.heap = h0 := by rw [← hh, Bd.state]; rfl
  have N0 := Fr.nil n0
  refine own_cast (P := own_End s (Q_hs5 Z a0 kk u0 u1 u2 u3 u4 h0 n0) ({ frames := 2, cells := 0, slots := 0, locals := 26 } : Room).cells ({ frames := 2, cells := 0, slots := 0, locals := 26 } : Room).slots) (ef_hs5 m a0) ?_
  refine g_iconst X0 hx hby (0 : Int32) d_hs5_0 (by decide) (rfl : 0 + 1 = 1) ?_
  refine g_istoreN X0 hx hby #[.val (.ref a0), .val (.int (0 : Int32)), .unset, .unset, .unset] d_hs5_1 rfl (rfl : 1 + 1 = 2) ?_
  refine g_aloadN X0 hx hby d_hs5_2 rfl rfl (rfl : 2 + 1 = 3) ?_
  refine g_alen X0 hx hby hZ e0 hp0 d_hs5_3 (rfl : 3 + 1 = 4) ?_
  refine g_bipush X0 hx hby (-4 : Int32) d_hs5_4 (by decide) (rfl : 4 + 2 = 6) ?_
  refine g_iand X0 hx hby d_hs5_6 (rfl : 6 + 1 = 7) ?_
  rw [(by decide : ((5 : Int32) &&& (-4 : Int32)) = (4 : Int32))]
  refine g_istoreN X0 hx hby #[.val (.ref a0), .val (.int (0 : Int32)), .val (.int (4 : Int32)), .unset, .unset] d_hs5_7 rfl (rfl : 7 + 1 = 8) ?_
  refine g_iconst X0 hx hby (0 : Int32) d_hs5_8 (by decide) (rfl : 8 + 1 = 9) ?_
  refine g_istoreN X0 hx hby #[.val (.ref a0), .val (.int (0 : Int32)), .val (.int (4 : Int32)), .val (.int (0 : Int32)), .unset] d_hs5_9 rfl (rfl : 9 + 1 = 10) ?_
  refine g_iloadN X0 hx hby d_hs5_10 rfl (rfl : 10 + 1 = 11) ?_
  refine g_iloadN X0 hx hby d_hs5_11 rfl (rfl : 11 + 1 = 12) ?_
  refine g_icF X0 hx hby d_hs5_12 (tlt (by decide : (0 : Int32) < (4 : Int32))).2.1 (rfl : 12 + 3 = 15) ?_
  refine g_aloadN X0 hx hby d_hs5_15 rfl rfl (rfl : 15 + 1 = 16) ?_
  refine g_iloadN X0 hx hby d_hs5_16 rfl (rfl : 16 + 1 = 17) ?_
  refine g_baload X0 hx hby hZ e0 (v := (.int u0)) hp0 ⟨by decide, by decide⟩ rfl d_hs5_17 (rfl : 17 + 1 = 18) ?_
  refine g_sipush X0 hx hby (255 : Int32) d_hs5_18 (by decide) (rfl : 18 + 3 = 21) ?_
  refine g_iand X0 hx hby d_hs5_21 (rfl : 21 + 1 = 22) ?_
  refine g_aloadN X0 hx hby d_hs5_22 rfl rfl (rfl : 22 + 1 = 23) ?_
  refine g_iloadN X0 hx hby d_hs5_23 rfl (rfl : 23 + 1 = 24) ?_
  refine g_iconst X0 hx hby (1 : Int32) d_hs5_24 (by decide) (rfl : 24 + 1 = 25) ?_
  refine g_iadd X0 hx hby d_hs5_25 (rfl : 25 + 1 = 26) ?_
  rw [(by decide : ((0 : Int32) + (1 : Int32)) = (1 : Int32))]
  refine g_baload X0 hx hby hZ e0 (v := (.int u1)) hp0 ⟨by decide, by decide⟩ rfl d_hs5_26 (rfl : 26 + 1 = 27) ?_
  refine g_sipush X0 hx hby (255 : Int32) d_hs5_27 (by decide) (rfl : 27 + 3 = 30) ?_
  refine g_iand X0 hx hby d_hs5_30 (rfl : 30 + 1 = 31) ?_
  refine g_bipush X0 hx hby (8 : Int32) d_hs5_31 (by decide) (rfl : 31 + 2 = 33) ?_
  refine g_ishl X0 hx hby d_hs5_33 (rfl : 33 + 1 = 34) ?_
  refine g_ior X0 hx hby d_hs5_34 (rfl : 34 + 1 = 35) ?_
  refine g_aloadN X0 hx hby d_hs5_35 rfl rfl (rfl : 35 + 1 = 36) ?_
  refine g_iloadN X0 hx hby d_hs5_36 rfl (rfl : 36 + 1 = 37) ?_
  refine g_iconst X0 hx hby (2 : Int32) d_hs5_37 (by decide) (rfl : 37 + 1 = 38) ?_
  refine g_iadd X0 hx hby d_hs5_38 (rfl : 38 + 1 = 39) ?_
  rw [(by decide : ((0 : Int32) + (2 : Int32)) = (2 : Int32))]
  refine g_baload X0 hx hby hZ e0 (v := (.int u2)) hp0 ⟨by decide, by decide⟩ rfl d_hs5_39 (rfl : 39 + 1 = 40) ?_
  refine g_sipush X0 hx hby (255 : Int32) d_hs5_40 (by decide) (rfl : 40 + 3 = 43) ?_
  refine g_iand X0 hx hby d_hs5_43 (rfl : 43 + 1 = 44) ?_
  refine g_bipush X0 hx hby (16 : Int32) d_hs5_44 (by decide) (rfl : 44 + 2 = 46) ?_
  refine g_ishl X0 hx hby d_hs5_46 (rfl : 46 + 1 = 47) ?_
  refine g_ior X0 hx hby d_hs5_47 (rfl : 47 + 1 = 48) ?_
  refine g_aloadN X0 hx hby d_hs5_48 rfl rfl (rfl : 48 + 1 = 49) ?_
  refine g_iloadN X0 hx hby d_hs5_49 rfl (rfl : 49 + 1 = 50) ?_
  refine g_iconst X0 hx hby (3 : Int32) d_hs5_50 (by decide) (rfl : 50 + 1 = 51) ?_
  refine g_iadd X0 hx hby d_hs5_51 (rfl : 51 + 1 = 52) ?_
  rw [(by decide : ((0 : Int32) + (3 : Int32)) = (3 : Int32))]
  refine g_baload X0 hx hby hZ e0 (v := (.int u3)) hp0 ⟨by decide, by decide⟩ rfl d_hs5_52 (rfl : 52 + 1 = 53) ?_
  refine g_bipush X0 hx hby (24 : Int32) d_hs5_53 (by decide) (rfl : 53 + 2 = 55) ?_
  refine g_ishl X0 hx hby d_hs5_55 (rfl : 55 + 1 = 56) ?_
  refine g_ior X0 hx hby d_hs5_56 (rfl : 56 + 1 = 57) ?_
  refine g_istore X0 hx hby #[.val (.ref a0), .val (.int (0 : Int32)), .val (.int (4 : Int32)), .val (.int (0 : Int32)), .val (.int ((((u0 &&& (255 : Int32)) ||| ((u1 &&& (255 : Int32)) <<< ((8 : Int32) &&& 31))) ||| ((u2 &&& (255 : Int32)) <<< ((16 : Int32) &&& 31))) ||| (u3 <<< ((24 : Int32) &&& 31))))] d_hs5_57 rfl (rfl : 57 + 2 = 59) ?_
  refine g_iloadN X0 hx hby d_hs5_59 rfl (rfl : 59 + 1 = 60) ?_
  refine g_iload X0 hx hby d_hs5_60 rfl (rfl : 60 + 2 = 62) ?_
  obtain ⟨_, _, ⟨T12, L12, k12, n12⟩, -, X12, ⟨Lc12, hQ12, l12, y12, z12⟩, st12⟩ := Jvm.LawKit.callS X0 hx (y := (⟨"com/example/farshard/farshard/store/Murmur3", "mixBlock", "(I)I"⟩ : MethodName)) hown (mvT hZ (hw _ (List.mem_of_getElem? (i := 17) rfl))) (mvT hZ (hw _ (List.mem_of_getElem? (i := 18) rfl))) (mvT hZ (hw _ (List.mem_of_getElem? (i := 4) rfl))) (mvT hZ (hw _ (List.mem_of_getElem? (i := 19) rfl))) (by decide) (backOf (W := 1) (rm_mix l Z aT hw [] ((((u0 &&& (255 : Int32)) ||| ((u1 &&& (255 : Int32)) <<< ((8 : Int32) &&& 31))) ||| ((u2 &&& (255 : Int32)) <<< ((16 : Int32) &&& 31))) ||| (u3 <<< ((24 : Int32) &&& 31))) h0 n0 Z0) hZ (hw _ (List.mem_of_getElem? (i := 19) rfl)) (hw _ (List.mem_of_getElem? (i := 4) rfl)) (by decide) (by decide)) (g := (mkF m 62 #[.val (.ref a0), .val (.int (0 : Int32)), .val (.int (4 : Int32)), .val (.int (0 : Int32)), .val (.int ((((u0 &&& (255 : Int32)) ||| ((u1 &&& (255 : Int32)) <<< ((8 : Int32) &&& 31))) ||| ((u2 &&& (255 : Int32)) <<< ((16 : Int32) &&& 31))) ||| (u3 <<< ((24 : Int32) &&& 31))))] [(.int ((((u0 &&& (255 : Int32)) ||| ((u1 &&& (255 : Int32)) <<< ((8 : Int32) &&& 31))) ||| ((u2 &&& (255 : Int32)) <<< ((16 : Int32) &&& 31))) ||| (u3 <<< ((24 : Int32) &&& 31)))), (.int (0 : Int32))])) rfl (by rw [hml]; rfl) (argsL := [(.int ((((u0 &&& (255 : Int32)) ||| ((u1 &&& (255 : Int32)) <<< ((8 : Int32) &&& 31))) ||| ((u2 &&& (255 : Int32)) <<< ((16 : Int32) &&& 31))) ||| (u3 <<< ((24 : Int32) &&& 31))))]) (rest := [(.int (0 : Int32))]) (lenOf pd1 rfl) rfl (by show 2 * 0 + _ ≤ _; exact Nat.le_of_eq rfl) (hb hby d_hs5_62) (fun _ _ => ⟨rfl, e0, (by decide : 0 + 0 ≤ _), (by decide : 0 + 0 ≤ _)⟩)
  dsimp only [Pt.U, Pt.locs, Pt.cells, Pt.slots] at X12 l12 y12 z12 st12 hQ12
  subst l12 y12 z12
  obtain ⟨rfl, N12q, eq12⟩ := hQ12
  have N12 := Fr.app N0 N12q
  refine own_go st12 ?_
  show own_Got p e below _ T12 (mkF m 65 #[.val (.ref a0), .val (.int (0 : Int32)), .val (.int (4 : Int32)), .val (.int (0 : Int32)), .val (.int ((((u0 &&& (255 : Int32)) ||| ((u1 &&& (255 : Int32)) <<< ((8 : Int32) &&& 31))) ||| ((u2 &&& (255 : Int32)) <<< ((16 : Int32) &&& 31))) ||| (u3 <<< ((24 : Int32) &&& 31))))] [(.int (F_mix ((((u0 &&& (255 : Int32)) ||| ((u1 &&& (255 : Int32)) <<< ((8 : Int32) &&& 31))) ||| ((u2 &&& (255 : Int32)) <<< ((16 : Int32) &&& 31))) ||| (u3 <<< ((24 : Int32) &&& 31))))), (.int (0 : Int32))])
  refine g_ixor X12 hx hby d_hs5_65 (rfl : 65 + 1 = 66) ?_
  refine g_istoreN X12 hx hby #[.val (.ref a0), .val (.int ((0 : Int32) ^^^ (F_mix ((((u0 &&& (255 : Int32)) ||| ((u1 &&& (255 : Int32)) <<< ((8 : Int32) &&& 31))) ||| ((u2 &&& (255 : Int32)) <<< ((16 : Int32) &&& 31))) ||| (u3 <<< ((24 : Int32) &&& 31)))))), .val (.int (4 : Int32)), .val (.int (0 : Int32)), .val (.int ((((u0 &&& (255 : Int32)) ||| ((u1 &&& (255 : Int32)) <<< ((8 : Int32) &&& 31))) ||| ((u2 &&& (255 : Int32)) <<< ((16 : Int32) &&& 31))) ||| (u3 <<< ((24 : Int32) &&& 31))))] d_hs5_66 rfl (rfl : 66 + 1 = 67) ?_
  refine g_iloadN X12 hx hby d_hs5_67 rfl (rfl : 67 + 1 = 68) ?_
  refine g_bipush X12 hx hby (13 : Int32) d_hs5_68 (by decide) (rfl : 68 + 2 = 70) ?_
  obtain ⟨_, _, ⟨T13, L13, k13, n13⟩, -, X13, ⟨Lc13, hQ13, l13, y13, z13⟩, st13⟩ := Jvm.LawKit.callS X12 hx (y := (⟨"java/lang/Integer", "rotateLeft", "(II)I"⟩ : MethodName)) hown (mvT hZ (hw _ (List.mem_of_getElem? (i := 21) rfl))) (mvT hZ (hw _ (List.mem_of_getElem? (i := 22) rfl))) (mvT hZ (hw _ (List.mem_of_getElem? (i := 23) rfl))) (mvT hZ (hw _ (List.mem_of_getElem? (i := 24) rfl))) (by decide) (backOf (W := 0) (rm_rot l Z aT hw [] ((0 : Int32) ^^^ (F_mix ((((u0 &&& (255 : Int32)) ||| ((u1 &&& (255 : Int32)) <<< ((8 : Int32) &&& 31))) ||| ((u2 &&& (255 : Int32)) <<< ((16 : Int32) &&& 31))) ||| (u3 <<< ((24 : Int32) &&& 31))))) (13 : Int32) h0 n0 Z0) hZ (hw _ (List.mem_of_getElem? (i := 24) rfl)) (hw _ (List.mem_of_getElem? (i := 23) rfl)) (by decide) (by decide)) (g := (mkF m 70 #[.val (.ref a0), .val (.int ((0 : Int32) ^^^ (F_mix ((((u0 &&& (255 : Int32)) ||| ((u1 &&& (255 : Int32)) <<< ((8 : Int32) &&& 31))) ||| ((u2 &&& (255 : Int32)) <<< ((16 : Int32) &&& 31))) ||| (u3 <<< ((24 : Int32) &&& 31)))))), .val (.int (4 : Int32)), .val (.int (0 : Int32)), .val (.int ((((u0 &&& (255 : Int32)) ||| ((u1 &&& (255 : Int32)) <<< ((8 : Int32) &&& 31))) ||| ((u2 &&& (255 : Int32)) <<< ((16 : Int32) &&& 31))) ||| (u3 <<< ((24 : Int32) &&& 31))))] [(.int (13 : Int32)), (.int ((0 : Int32) ^^^ (F_mix ((((u0 &&& (255 : Int32)) ||| ((u1 &&& (255 : Int32)) <<< ((8 : Int32) &&& 31))) ||| ((u2 &&& (255 : Int32)) <<< ((16 : Int32) &&& 31))) ||| (u3 <<< ((24 : Int32) &&& 31))))))])) rfl (by rw [hml]; rfl) (argsL := [(.int ((0 : Int32) ^^^ (F_mix ((((u0 &&& (255 : Int32)) ||| ((u1 &&& (255 : Int32)) <<< ((8 : Int32) &&& 31))) ||| ((u2 &&& (255 : Int32)) <<< ((16 : Int32) &&& 31))) ||| (u3 <<< ((24 : Int32) &&& 31)))))), (.int (13 : Int32))]) (rest := []) (lenOf pd0 rfl) rfl (by show 2 * 0 + _ ≤ _; exact Nat.le_of_eq rfl) (hb hby d_hs5_70) (fun _ _ => ⟨rfl, eq12, (by decide : 0 + 0 ≤ _), (by decide : 0 + 0 ≤ _)⟩)
  dsimp only [Pt.U, Pt.locs, Pt.cells, Pt.slots] at X13 l13 y13 z13 st13 hQ13
  subst l13 y13 z13
  obtain ⟨rfl, N13q, eq13⟩ := hQ13
  have N13 := Fr.app N12 N13q
  refine own_go st13 ?_
  show own_Got p e below _ T13 (mkF m 73 #[.val (.ref a0), .val (.int ((0 : Int32) ^^^ (F_mix ((((u0 &&& (255 : Int32)) ||| ((u1 &&& (255 : Int32)) <<< ((8 : Int32) &&& 31))) ||| ((u2 &&& (255 : Int32)) <<< ((16 : Int32) &&& 31))) ||| (u3 <<< ((24 : Int32) &&& 31)))))), .val (.int (4 : Int32)), .val (.int (0 : Int32)), .val (.int ((((u0 &&& (255 : Int32)) ||| ((u1 &&& (255 : Int32)) <<< ((8 : Int32) &&& 31))) ||| ((u2 &&& (255 : Int32)) <<< ((16 : Int32) &&& 31))) ||| (u3 <<< ((24 : Int32) &&& 31))))] [(.int (F_rot ((0 : Int32) ^^^ (F_mix ((((u0 &&& (255 : Int32)) ||| ((u1 &&& (255 : Int32)) <<< ((8 : Int32) &&& 31))) ||| ((u2 &&& (255 : Int32)) <<< ((16 : Int32) &&& 31))) ||| (u3 <<< ((24 : Int32) &&& 31))))) (13 : Int32)))])
  refine g_iconst X13 hx hby (5 : Int32) d_hs5_73 (by decide) (rfl : 73 + 1 = 74) ?_
  refine g_imul X13 hx hby d_hs5_74 (rfl : 74 + 1 = 75) ?_
  refine g_ldcI X13 hx hby hZ hown (hw _ (List.mem_of_getElem? (i := 31) rfl)) d_hs5_75 (rfl : 75 + 2 = 77) ?_
  refine g_iadd X13 hx hby d_hs5_77 (rfl : 77 + 1 = 78) ?_
  refine g_istoreN X13 hx hby #[.val (.ref a0), .val (.int (((F_rot ((0 : Int32) ^^^ (F_mix ((((u0 &&& (255 : Int32)) ||| ((u1 &&& (255 : Int32)) <<< ((8 : Int32) &&& 31))) ||| ((u2 &&& (255 : Int32)) <<< ((16 : Int32) &&& 31))) ||| (u3 <<< ((24 : Int32) &&& 31))))) (13 : Int32)) * (5 : Int32)) + (-430675100 : Int32))), .val (.int (4 : Int32)), .val (.int (0 : Int32)), .val (.int ((((u0 &&& (255 : Int32)) ||| ((u1 &&& (255 : Int32)) <<< ((8 : Int32) &&& 31))) ||| ((u2 &&& (255 : Int32)) <<< ((16 : Int32) &&& 31))) ||| (u3 <<< ((24 : Int32) &&& 31))))] d_hs5_78 rfl (rfl : 78 + 1 = 79) ?_
  refine g_iinc X13 hx hby #[.val (.ref a0), .val (.int (((F_rot ((0 : Int32) ^^^ (F_mix ((((u0 &&& (255 : Int32)) ||| ((u1 &&& (255 : Int32)) <<< ((8 : Int32) &&& 31))) ||| ((u2 &&& (255 : Int32)) <<< ((16 : Int32) &&& 31))) ||| (u3 <<< ((24 : Int32) &&& 31))))) (13 : Int32)) * (5 : Int32)) + (-430675100 : Int32))), .val (.int (4 : Int32)), .val (.int ((0 : Int32) + (4 : Int32))), .val (.int ((((u0 &&& (255 : Int32)) ||| ((u1 &&& (255 : Int32)) <<< ((8 : Int32) &&& 31))) ||| ((u2 &&& (255 : Int32)) <<< ((16 : Int32) &&& 31))) ||| (u3 <<< ((24 : Int32) &&& 31))))] d_hs5_79 rfl rfl (rfl : 79 + 3 = 82) ?_
  rw [(by decide : ((0 : Int32) + (4 : Int32)) = (4 : Int32))]
  refine g_goto X13 hx hby d_hs5_82 (by decide) (pc' := 10) (by decide) ?_
  refine g_iloadN X13 hx hby d_hs5_10 rfl (rfl : 10 + 1 = 11) ?_
  refine g_iloadN X13 hx hby d_hs5_11 rfl (rfl : 11 + 1 = 12) ?_
  refine g_icT X13 hx hby d_hs5_12 (flt (by decide : ¬ ((4 : Int32) < (4 : Int32)))).2.1 (by decide) (pc' := 85) (by decide) ?_
  refine g_aloadN X13 hx hby d_hs5_85 rfl rfl (rfl : 85 + 1 = 86) ?_
  refine g_alen X13 hx hby hZ eq13 hp0 d_hs5_86 (rfl : 86 + 1 = 87) ?_
  refine g_iconst X13 hx hby (3 : Int32) d_hs5_87 (by decide) (rfl : 87 + 1 = 88) ?_
  refine g_iand X13 hx hby d_hs5_88 (rfl : 88 + 1 = 89) ?_
  rw [(by decide : ((5 : Int32) &&& (3 : Int32)) = (1 : Int32))]
  refine g_istoreN X13 hx hby #[.val (.ref a0), .val (.int (((F_rot ((0 : Int32) ^^^ (F_mix ((((u0 &&& (255 : Int32)) ||| ((u1 &&& (255 : Int32)) <<< ((8 : Int32) &&& 31))) ||| ((u2 &&& (255 : Int32)) <<< ((16 : Int32) &&& 31))) ||| (u3 <<< ((24 : Int32) &&& 31))))) (13 : Int32)) * (5 : Int32)) + (-430675100 : Int32))), .val (.int (4 : Int32)), .val (.int (1 : Int32)), .val (.int ((((u0 &&& (255 : Int32)) ||| ((u1 &&& (255 : Int32)) <<< ((8 : Int32) &&& 31))) ||| ((u2 &&& (255 : Int32)) <<< ((16 : Int32) &&& 31))) ||| (u3 <<< ((24 : Int32) &&& 31))))] d_hs5_89 rfl (rfl : 89 + 1 = 90) ?_
  refine g_iloadN X13 hx hby d_hs5_90 rfl (rfl : 90 + 1 = 91) ?_
  refine g_ifF X13 hx hby d_hs5_91 ((if0 _ _).trans (tlt (by decide : (0 : Int32) < (1 : Int32))).2.2.2) (rfl : 91 + 3 = 94) ?_
  refine g_aloadN X13 hx hby d_hs5_94 rfl rfl (rfl : 94 + 1 = 95) ?_
  refine g_iloadN X13 hx hby d_hs5_95 rfl (rfl : 95 + 1 = 96) ?_
  refine g_baload X13 hx hby hZ eq13 (v := (.int u4)) hp0 ⟨by decide, by decide⟩ rfl d_hs5_96 (rfl : 96 + 1 = 97) ?_
  refine g_sipush X13 hx hby (255 : Int32) d_hs5_97 (by decide) (rfl : 97 + 3 = 100) ?_
  refine g_iand X13 hx hby d_hs5_100 (rfl : 100 + 1 = 101) ?_
  refine g_istore X13 hx hby #[.val (.ref a0), .val (.int (((F_rot ((0 : Int32) ^^^ (F_mix ((((u0 &&& (255 : Int32)) ||| ((u1 &&& (255 : Int32)) <<< ((8 : Int32) &&& 31))) ||| ((u2 &&& (255 : Int32)) <<< ((16 : Int32) &&& 31))) ||| (u3 <<< ((24 : Int32) &&& 31))))) (13 : Int32)) * (5 : Int32)) + (-430675100 : Int32))), .val (.int (4 : Int32)), .val (.int (1 : Int32)), .val (.int (u4 &&& (255 : Int32)))] d_hs5_101 rfl (rfl : 101 + 2 = 103) ?_
  refine g_iloadN X13 hx hby d_hs5_103 rfl (rfl : 103 + 1 = 104) ?_
  refine g_iconst X13 hx hby (1 : Int32) d_hs5_104 (by decide) (rfl : 104 + 1 = 105) ?_
  refine g_icT X13 hx hby d_hs5_105 (flt (by decide : ¬ ((1 : Int32) < (1 : Int32)))).2.2.2 (by decide) (pc' := 125) (by decide) ?_
  refine g_iloadN X13 hx hby d_hs5_125 rfl (rfl : 125 + 1 = 126) ?_
  refine g_iconst X13 hx hby (2 : Int32) d_hs5_126 (by decide) (rfl : 126 + 1 = 127) ?_
  refine g_icT X13 hx hby d_hs5_127 (flt (by decide : ¬ ((2 : Int32) < (1 : Int32)))).2.2.2 (by decide) (pc' := 147) (by decide) ?_
  refine g_iloadN X13 hx hby d_hs5_147 rfl (rfl : 147 + 1 = 148) ?_
  refine g_iload X13 hx hby d_hs5_148 rfl (rfl : 148 + 2 = 150) ?_
  obtain ⟨_, _, ⟨T14, L14, k14, n14⟩, -, X14, ⟨Lc14, hQ14, l14, y14, z14⟩, st14⟩ := Jvm.LawKit.callS X13 hx (y := (⟨"com/example/farshard/farshard/store/Murmur3", "mixBlock", "(I)I"⟩ : MethodName)) hown (mvT hZ (hw _ (List.mem_of_getElem? (i := 17) rfl))) (mvT hZ (hw _ (List.mem_of_getElem? (i := 18) rfl))) (mvT hZ (hw _ (List.mem_of_getElem? (i := 4) rfl))) (mvT hZ (hw _ (List.mem_of_getElem? (i := 19) rfl))) (by decide) (backOf (W := 1) (rm_mix l Z aT hw [] (u4 &&& (255 : Int32)) h0 n0 Z0) hZ (hw _ (List.mem_of_getElem? (i := 19) rfl)) (hw _ (List.mem_of_getElem? (i := 4) rfl)) (by decide) (by decide)) (g := (mkF m 150 #[.val (.ref a0), .val (.int (((F_rot ((0 : Int32) ^^^ (F_mix ((((u0 &&& (255 : Int32)) ||| ((u1 &&& (255 : Int32)) <<< ((8 : Int32) &&& 31))) ||| ((u2 &&& (255 : Int32)) <<< ((16 : Int32) &&& 31))) ||| (u3 <<< ((24 : Int32) &&& 31))))) (13 : Int32)) * (5 : Int32)) + (-430675100 : Int32))), .val (.int (4 : Int32)), .val (.int (1 : Int32)), .val (.int (u4 &&& (255 : Int32)))] [(.int (u4 &&& (255 : Int32))), (.int (((F_rot ((0 : Int32) ^^^ (F_mix ((((u0 &&& (255 : Int32)) ||| ((u1 &&& (255 : Int32)) <<< ((8 : Int32) &&& 31))) ||| ((u2 &&& (255 : Int32)) <<< ((16 : Int32) &&& 31))) ||| (u3 <<< ((24 : Int32) &&& 31))))) (13 : Int32)) * (5 : Int32)) + (-430675100 : Int32)))])) rfl (by rw [hml]; rfl) (argsL := [(.int (u4 &&& (255 : Int32)))]) (rest := [(.int (((F_rot ((0 : Int32) ^^^ (F_mix ((((u0 &&& (255 : Int32)) ||| ((u1 &&& (255 : Int32)) <<< ((8 : Int32) &&& 31))) ||| ((u2 &&& (255 : Int32)) <<< ((16 : Int32) &&& 31))) ||| (u3 <<< ((24 : Int32) &&& 31))))) (13 : Int32)) * (5 : Int32)) + (-430675100 : Int32)))]) (lenOf pd1 rfl) rfl (by show 2 * 0 + _ ≤ _; exact Nat.le_of_eq rfl) (hb hby d_hs5_150) (fun _ _ => ⟨rfl, eq13, (by decide : 0 + 0 ≤ _), (by decide : 0 + 0 ≤ _)⟩)
  dsimp only [Pt.U, Pt.locs, Pt.cells, Pt.slots] at X14 l14 y14 z14 st14 hQ14
  subst l14 y14 z14
  obtain ⟨rfl, N14q, eq14⟩ := hQ14
  have N14 := Fr.app N13 N14q
  refine own_go st14 ?_
  show own_Got p e below _ T14 (mkF m 153 #[.val (.ref a0), .val (.int (((F_rot ((0 : Int32) ^^^ (F_mix ((((u0 &&& (255 : Int32)) ||| ((u1 &&& (255 : Int32)) <<< ((8 : Int32) &&& 31))) ||| ((u2 &&& (255 : Int32)) <<< ((16 : Int32) &&& 31))) ||| (u3 <<< ((24 : Int32) &&& 31))))) (13 : Int32)) * (5 : Int32)) + (-430675100 : Int32))), .val (.int (4 : Int32)), .val (.int (1 : Int32)), .val (.int (u4 &&& (255 : Int32)))] [(.int (F_mix (u4 &&& (255 : Int32)))), (.int (((F_rot ((0 : Int32) ^^^ (F_mix ((((u0 &&& (255 : Int32)) ||| ((u1 &&& (255 : Int32)) <<< ((8 : Int32) &&& 31))) ||| ((u2 &&& (255 : Int32)) <<< ((16 : Int32) &&& 31))) ||| (u3 <<< ((24 : Int32) &&& 31))))) (13 : Int32)) * (5 : Int32)) + (-430675100 : Int32)))])
  refine g_ixor X14 hx hby d_hs5_153 (rfl : 153 + 1 = 154) ?_
  refine g_istoreN X14 hx hby #[.val (.ref a0), .val (.int ((((F_rot ((0 : Int32) ^^^ (F_mix ((((u0 &&& (255 : Int32)) ||| ((u1 &&& (255 : Int32)) <<< ((8 : Int32) &&& 31))) ||| ((u2 &&& (255 : Int32)) <<< ((16 : Int32) &&& 31))) ||| (u3 <<< ((24 : Int32) &&& 31))))) (13 : Int32)) * (5 : Int32)) + (-430675100 : Int32)) ^^^ (F_mix (u4 &&& (255 : Int32))))), .val (.int (4 : Int32)), .val (.int (1 : Int32)), .val (.int (u4 &&& (255 : Int32)))] d_hs5_154 rfl (rfl : 154 + 1 = 155) ?_
  refine g_iloadN X14 hx hby d_hs5_155 rfl (rfl : 155 + 1 = 156) ?_
  refine g_aloadN X14 hx hby d_hs5_156 rfl rfl (rfl : 156 + 1 = 157) ?_
  refine g_alen X14 hx hby hZ eq14 hp0 d_hs5_157 (rfl : 157 + 1 = 158) ?_
  refine g_ixor X14 hx hby d_hs5_158 (rfl : 158 + 1 = 159) ?_
  refine g_istoreN X14 hx hby #[.val (.ref a0), .val (.int (((((F_rot ((0 : Int32) ^^^ (F_mix ((((u0 &&& (255 : Int32)) ||| ((u1 &&& (255 : Int32)) <<< ((8 : Int32) &&& 31))) ||| ((u2 &&& (255 : Int32)) <<< ((16 : Int32) &&& 31))) ||| (u3 <<< ((24 : Int32) &&& 31))))) (13 : Int32)) * (5 : Int32)) + (-430675100 : Int32)) ^^^ (F_mix (u4 &&& (255 : Int32)))) ^^^ (5 : Int32))), .val (.int (4 : Int32)), .val (.int (1 : Int32)), .val (.int (u4 &&& (255 : Int32)))] d_hs5_159 rfl (rfl : 159 + 1 = 160) ?_
  refine g_iloadN X14 hx hby d_hs5_160 rfl (rfl : 160 + 1 = 161) ?_
  refine g_iloadN X14 hx hby d_hs5_161 rfl (rfl : 161 + 1 = 162) ?_
  refine g_bipush X14 hx hby (16 : Int32) d_hs5_162 (by decide) (rfl : 162 + 2 = 164) ?_
  refine g_iushr X14 hx hby d_hs5_164 (rfl : 164 + 1 = 165) ?_
  refine g_ixor X14 hx hby d_hs5_165 (rfl : 165 + 1 = 166) ?_
  refine g_istoreN X14 hx hby #[.val (.ref a0), .val (.int ((((((F_rot ((0 : Int32) ^^^ (F_mix ((((u0 &&& (255 : Int32)) ||| ((u1 &&& (255 : Int32)) <<< ((8 : Int32) &&& 31))) ||| ((u2 &&& (255 : Int32)) <<< ((16 : Int32) &&& 31))) ||| (u3 <<< ((24 : Int32) &&& 31))))) (13 : Int32)) * (5 : Int32)) + (-430675100 : Int32)) ^^^ (F_mix (u4 &&& (255 : Int32)))) ^^^ (5 : Int32)) ^^^ (((((((F_rot ((0 : Int32) ^^^ (F_mix ((((u0 &&& (255 : Int32)) ||| ((u1 &&& (255 : Int32)) <<< ((8 : Int32) &&& 31))) ||| ((u2 &&& (255 : Int32)) <<< ((16 : Int32) &&& 31))) ||| (u3 <<< ((24 : Int32) &&& 31))))) (13 : Int32)) * (5 : Int32)) + (-430675100 : Int32)) ^^^ (F_mix (u4 &&& (255 : Int32)))) ^^^ (5 : Int32)).toUInt32 >>> ((16 : Int32) &&& 31).toUInt32).toInt32))), .val (.int (4 : Int32)), .val (.int (1 : Int32)), .val (.int (u4 &&& (255 : Int32)))] d_hs5_166 rfl (rfl : 166 + 1 = 167) ?_
  refine g_iloadN X14 hx hby d_hs5_167 rfl (rfl : 167 + 1 = 168) ?_
  refine g_ldcI X14 hx hby hZ hown (hw _ (List.mem_of_getElem? (i := 6) rfl)) d_hs5_168 (rfl : 168 + 2 = 170) ?_
  refine g_imul X14 hx hby d_hs5_170 (rfl : 170 + 1 = 171) ?_
  refine g_istoreN X14 hx hby #[.val (.ref a0), .val (.int (((((((F_rot ((0 : Int32) ^^^ (F_mix ((((u0 &&& (255 : Int32)) ||| ((u1 &&& (255 : Int32)) <<< ((8 : Int32) &&& 31))) ||| ((u2 &&& (255 : Int32)) <<< ((16 : Int32) &&& 31))) ||| (u3 <<< ((24 : Int32) &&& 31))))) (13 : Int32)) * (5 : Int32)) + (-430675100 : Int32)) ^^^ (F_mix (u4 &&& (255 : Int32)))) ^^^ (5 : Int32)) ^^^ (((((((F_rot ((0 : Int32) ^^^ (F_mix ((((u0 &&& (255 : Int32)) ||| ((u1 &&& (255 : Int32)) <<< ((8 : Int32) &&& 31))) ||| ((u2 &&& (255 : Int32)) <<< ((16 : Int32) &&& 31))) ||| (u3 <<< ((24 : Int32) &&& 31))))) (13 : Int32)) * (5 : Int32)) + (-430675100 : Int32)) ^^^ (F_mix (u4 &&& (255 : Int32)))) ^^^ (5 : Int32)).toUInt32 >>> ((16 : Int32) &&& 31).toUInt32).toInt32)) * (-2048144789 : Int32))), .val (.int (4 : Int32)), .val (.int (1 : Int32)), .val (.int (u4 &&& (255 : Int32)))] d_hs5_171 rfl (rfl : 171 + 1 = 172) ?_
  refine g_iloadN X14 hx hby d_hs5_172 rfl (rfl : 172 + 1 = 173) ?_
  refine g_iloadN X14 hx hby d_hs5_173 rfl (rfl : 173 + 1 = 174) ?_
  refine g_bipush X14 hx hby (13 : Int32) d_hs5_174 (by decide) (rfl : 174 + 2 = 176) ?_
  refine g_iushr X14 hx hby d_hs5_176 (rfl : 176 + 1 = 177) ?_
  refine g_ixor X14 hx hby d_hs5_177 (rfl : 177 + 1 = 178) ?_
  refine g_istoreN X14 hx hby #[.val (.ref a0), .val (.int ((((((((F_rot ((0 : Int32) ^^^ (F_mix ((((u0 &&& (255 : Int32)) ||| ((u1 &&& (255 : Int32)) <<< ((8 : Int32) &&& 31))) ||| ((u2 &&& (255 : Int32)) <<< ((16 : Int32) &&& 31))) ||| (u3 <<< ((24 : Int32) &&& 31))))) (13 : Int32)) * (5 : Int32)) + (-430675100 : Int32)) ^^^ (F_mix (u4 &&& (255 : Int32)))) ^^^ (5 : Int32)) ^^^ (((((((F_rot ((0 : Int32) ^^^ (F_mix ((((u0 &&& (255 : Int32)) ||| ((u1 &&& (255 : Int32)) <<< ((8 : Int32) &&& 31))) ||| ((u2 &&& (255 : Int32)) <<< ((16 : Int32) &&& 31))) ||| (u3 <<< ((24 : Int32) &&& 31))))) (13 : Int32)) * (5 : Int32)) + (-430675100 : Int32)) ^^^ (F_mix (u4 &&& (255 : Int32)))) ^^^ (5 : Int32)).toUInt32 >>> ((16 : Int32) &&& 31).toUInt32).toInt32)) * (-2048144789 : Int32)) ^^^ (((((((((F_rot ((0 : Int32) ^^^ (F_mix ((((u0 &&& (255 : Int32)) ||| ((u1 &&& (255 : Int32)) <<< ((8 : Int32) &&& 31))) ||| ((u2 &&& (255 : Int32)) <<< ((16 : Int32) &&& 31))) ||| (u3 <<< ((24 : Int32) &&& 31))))) (13 : Int32)) * (5 : Int32)) + (-430675100 : Int32)) ^^^ (F_mix (u4 &&& (255 : Int32)))) ^^^ (5 : Int32)) ^^^ (((((((F_rot ((0 : Int32) ^^^ (F_mix ((((u0 &&& (255 : Int32)) ||| ((u1 &&& (255 : Int32)) <<< ((8 : Int32) &&& 31))) ||| ((u2 &&& (255 : Int32)) <<< ((16 : Int32) &&& 31))) ||| (u3 <<< ((24 : Int32) &&& 31))))) (13 : Int32)) * (5 : Int32)) + (-430675100 : Int32)) ^^^ (F_mix (u4 &&& (255 : Int32)))) ^^^ (5 : Int32)).toUInt32 >>> ((16 : Int32) &&& 31).toUInt32).toInt32)) * (-2048144789 : Int32)).toUInt32 >>> ((13 : Int32) &&& 31).toUInt32).toInt32))), .val (.int (4 : Int32)), .val (.int (1 : Int32)), .val (.int (u4 &&& (255 : Int32)))] d_hs5_178 rfl (rfl : 178 + 1 = 179) ?_
  refine g_iloadN X14 hx hby d_hs5_179 rfl (rfl : 179 + 1 = 180) ?_
  refine g_ldcI X14 hx hby hZ hown (hw _ (List.mem_of_getElem? (i := 7) rfl)) d_hs5_180 (rfl : 180 + 2 = 182) ?_
  refine g_imul X14 hx hby d_hs5_182 (rfl : 182 + 1 = 183) ?_
  refine g_istoreN X14 hx hby #[.val (.ref a0), .val (.int (((((((((F_rot ((0 : Int32) ^^^ (F_mix ((((u0 &&& (255 : Int32)) ||| ((u1 &&& (255 : Int32)) <<< ((8 : Int32) &&& 31))) ||| ((u2 &&& (255 : Int32)) <<< ((16 : Int32) &&& 31))) ||| (u3 <<< ((24 : Int32) &&& 31))))) (13 : Int32)) * (5 : Int32)) + (-430675100 : Int32)) ^^^ (F_mix (u4 &&& (255 : Int32)))) ^^^ (5 : Int32)) ^^^ (((((((F_rot ((0 : Int32) ^^^ (F_mix ((((u0 &&& (255 : Int32)) ||| ((u1 &&& (255 : Int32)) <<< ((8 : Int32) &&& 31))) ||| ((u2 &&& (255 : Int32)) <<< ((16 : Int32) &&& 31))) ||| (u3 <<< ((24 : Int32) &&& 31))))) (13 : Int32)) * (5 : Int32)) + (-430675100 : Int32)) ^^^ (F_mix (u4 &&& (255 : Int32)))) ^^^ (5 : Int32)).toUInt32 >>> ((16 : Int32) &&& 31).toUInt32).toInt32)) * (-2048144789 : Int32)) ^^^ (((((((((F_rot ((0 : Int32) ^^^ (F_mix ((((u0 &&& (255 : Int32)) ||| ((u1 &&& (255 : Int32)) <<< ((8 : Int32) &&& 31))) ||| ((u2 &&& (255 : Int32)) <<< ((16 : Int32) &&& 31))) ||| (u3 <<< ((24 : Int32) &&& 31))))) (13 : Int32)) * (5 : Int32)) + (-430675100 : Int32)) ^^^ (F_mix (u4 &&& (255 : Int32)))) ^^^ (5 : Int32)) ^^^ (((((((F_rot ((0 : Int32) ^^^ (F_mix ((((u0 &&& (255 : Int32)) ||| ((u1 &&& (255 : Int32)) <<< ((8 : Int32) &&& 31))) ||| ((u2 &&& (255 : Int32)) <<< ((16 : Int32) &&& 31))) ||| (u3 <<< ((24 : Int32) &&& 31))))) (13 : Int32)) * (5 : Int32)) + (-430675100 : Int32)) ^^^ (F_mix (u4 &&& (255 : Int32)))) ^^^ (5 : Int32)).toUInt32 >>> ((16 : Int32) &&& 31).toUInt32).toInt32)) * (-2048144789 : Int32)).toUInt32 >>> ((13 : Int32) &&& 31).toUInt32).toInt32)) * (-1028477387 : Int32))), .val (.int (4 : Int32)), .val (.int (1 : Int32)), .val (.int (u4 &&& (255 : Int32)))] d_hs5_183 rfl (rfl : 183 + 1 = 184) ?_
  refine g_iloadN X14 hx hby d_hs5_184 rfl (rfl : 184 + 1 = 185) ?_
  refine g_iloadN X14 hx hby d_hs5_185 rfl (rfl : 185 + 1 = 186) ?_
  refine g_bipush X14 hx hby (16 : Int32) d_hs5_186 (by decide) (rfl : 186 + 2 = 188) ?_
  refine g_iushr X14 hx hby d_hs5_188 (rfl : 188 + 1 = 189) ?_
  refine g_ixor X14 hx hby d_hs5_189 (rfl : 189 + 1 = 190) ?_
  refine own_retI X14 hx hby hlk hrt d_hs5_190 (by decide) (by decide) ?_
  show Q_hs5 Z a0 kk u0 u1 u2 u3 u4 h0 n0 _ T14.heap _
  exact ⟨rfl, N14, eq14⟩
theorem d_hs6_0 : decode prog_62_method_2_code 0 = .ok (.iconst 0, 1) := by decide +kernel
theorem d_hs6_1 : decode prog_62_method_2_code 1 = .ok (.istore_n 1, 1) := by decide +kernel
theorem d_hs6_2 : decode prog_62_method_2_code 2 = .ok (.aload_n 0, 1) := by decide +kernel
theorem d_hs6_3 : decode prog_62_method_2_code 3 = .ok (.arraylength, 1) := by decide +kernel
theorem d_hs6_4 : decode prog_62_method_2_code 4 = .ok (.bipush (-4), 2) := by decide +kernel
theorem d_hs6_6 : decode prog_62_method_2_code 6 = .ok (.iand, 1) := by decide +kernel
theorem d_hs6_7 : decode prog_62_method_2_code 7 = .ok (.istore_n 2, 1) := by decide +kernel
theorem d_hs6_8 : decode prog_62_method_2_code 8 = .ok (.iconst 0, 1) := by decide +kernel
theorem d_hs6_9 : decode prog_62_method_2_code 9 = .ok (.istore_n 3, 1) := by decide +kernel
theorem d_hs6_10 : decode prog_62_method_2_code 10 = .ok (.iload_n 3, 1) := by decide +kernel
theorem d_hs6_11 : decode prog_62_method_2_code 11 = .ok (.iload_n 2, 1) := by decide +kernel
theorem d_hs6_12 : decode prog_62_method_2_code 12 = .ok (.if_icmp .ge 73, 3) := by decide +kernel
theorem d_hs6_15 : decode prog_62_method_2_code 15 = .ok (.aload_n 0, 1) := by decide +kernel
theorem d_hs6_16 : decode prog_62_method_2_code 16 = .ok (.iload_n 3, 1) := by decide +kernel
theorem d_hs6_17 : decode prog_62_method_2_code 17 = .ok (.baload, 1) := by decide +kernel
theorem d_hs6_18 : decode prog_62_method_2_code 18 = .ok (.sipush 255, 3) := by decide +kernel
theorem d_hs6_21 : decode prog_62_method_2_code 21 = .ok (.iand, 1) := by decide +kernel
theorem d_hs6_22 : decode prog_62_method_2_code 22 = .ok (.aload_n 0, 1) := by decide +kernel
theorem d_hs6_23 : decode prog_62_method_2_code 23 = .ok (.iload_n 3, 1) := by decide +kernel
theorem d_hs6_24 : decode prog_62_method_2_code 24 = .ok (.iconst 1, 1) := by decide +kernel
theorem d_hs6_25 : decode prog_62_method_2_code 25 = .ok (.iadd, 1) := by decide +kernel
theorem d_hs6_26 : decode prog_62_method_2_code 26 = .ok (.baload, 1) := by decide +kernel
theorem d_hs6_27 : decode prog_62_method_2_code 27 = .ok (.sipush 255, 3) := by decide +kernel
theorem d_hs6_30 : decode prog_62_method_2_code 30 = .ok (.iand, 1) := by decide +kernel
theorem d_hs6_31 : decode prog_62_method_2_code 31 = .ok (.bipush 8, 2) := by decide +kernel
theorem d_hs6_33 : decode prog_62_method_2_code 33 = .ok (.ishl, 1) := by decide +kernel
theorem d_hs6_34 : decode prog_62_method_2_code 34 = .ok (.ior, 1) := by decide +kernel
theorem d_hs6_35 : decode prog_62_method_2_code 35 = .ok (.aload_n 0, 1) := by decide +kernel
theorem d_hs6_36 : decode prog_62_method_2_code 36 = .ok (.iload_n 3, 1) := by decide +kernel
theorem d_hs6_37 : decode prog_62_method_2_code 37 = .ok (.iconst 2, 1) := by decide +kernel
theorem d_hs6_38 : decode prog_62_method_2_code 38 = .ok (.iadd, 1) := by decide +kernel
theorem d_hs6_39 : decode prog_62_method_2_code 39 = .ok (.baload, 1) := by decide +kernel
theorem d_hs6_40 : decode prog_62_method_2_code 40 = .ok (.sipush 255, 3) := by decide +kernel
theorem d_hs6_43 : decode prog_62_method_2_code 43 = .ok (.iand, 1) := by decide +kernel
theorem d_hs6_44 : decode prog_62_method_2_code 44 = .ok (.bipush 16, 2) := by decide +kernel
theorem d_hs6_46 : decode prog_62_method_2_code 46 = .ok (.ishl, 1) := by decide +kernel
theorem d_hs6_47 : decode prog_62_method_2_code 47 = .ok (.ior, 1) := by decide +kernel
theorem d_hs6_48 : decode prog_62_method_2_code 48 = .ok (.aload_n 0, 1) := by decide +kernel
theorem d_hs6_49 : decode prog_62_method_2_code 49 = .ok (.iload_n 3, 1) := by decide +kernel
theorem d_hs6_50 : decode prog_62_method_2_code 50 = .ok (.iconst 3, 1) := by decide +kernel
theorem d_hs6_51 : decode prog_62_method_2_code 51 = .ok (.iadd, 1) := by decide +kernel
theorem d_hs6_52 : decode prog_62_method_2_code 52 = .ok (.baload, 1) := by decide +kernel
theorem d_hs6_53 : decode prog_62_method_2_code 53 = .ok (.bipush 24, 2) := by decide +kernel
theorem d_hs6_55 : decode prog_62_method_2_code 55 = .ok (.ishl, 1) := by decide +kernel
theorem d_hs6_56 : decode prog_62_method_2_code 56 = .ok (.ior, 1) := by decide +kernel
theorem d_hs6_57 : decode prog_62_method_2_code 57 = .ok (.istore 4, 2) := by decide +kernel
theorem d_hs6_59 : decode prog_62_method_2_code 59 = .ok (.iload_n 1, 1) := by decide +kernel
theorem d_hs6_60 : decode prog_62_method_2_code 60 = .ok (.iload 4, 2) := by decide +kernel
theorem d_hs6_62 : decode prog_62_method_2_code 62 = .ok (.invokestatic 7, 3) := by decide +kernel
theorem d_hs6_65 : decode prog_62_method_2_code 65 = .ok (.ixor, 1) := by decide +kernel
theorem d_hs6_66 : decode prog_62_method_2_code 66 = .ok (.istore_n 1, 1) := by decide +kernel
theorem d_hs6_67 : decode prog_62_method_2_code 67 = .ok (.iload_n 1, 1) := by decide +kernel
theorem d_hs6_68 : decode prog_62_method_2_code 68 = .ok (.bipush 13, 2) := by decide +kernel
theorem d_hs6_70 : decode prog_62_method_2_code 70 = .ok (.invokestatic 13, 3) := by decide +kernel
theorem d_hs6_73 : decode prog_62_method_2_code 73 = .ok (.iconst 5, 1) := by decide +kernel
theorem d_hs6_74 : decode prog_62_method_2_code 74 = .ok (.imul, 1) := by decide +kernel
theorem d_hs6_75 : decode prog_62_method_2_code 75 = .ok (.ldc 19, 2) := by decide +kernel
theorem d_hs6_77 : decode prog_62_method_2_code 77 = .ok (.iadd, 1) := by decide +kernel
theorem d_hs6_78 : decode prog_62_method_2_code 78 = .ok (.istore_n 1, 1) := by decide +kernel
theorem d_hs6_79 : decode prog_62_method_2_code 79 = .ok (.iinc 3 4, 3) := by decide +kernel
theorem d_hs6_82 : decode prog_62_method_2_code 82 = .ok (.goto (-72), 3) := by decide +kernel
theorem d_hs6_85 : decode prog_62_method_2_code 85 = .ok (.aload_n 0, 1) := by decide +kernel
theorem d_hs6_86 : decode prog_62_method_2_code 86 = .ok (.arraylength, 1) := by decide +kernel
theorem d_hs6_87 : decode prog_62_method_2_code 87 = .ok (.iconst 3, 1) := by decide +kernel
theorem d_hs6_88 : decode prog_62_method_2_code 88 = .ok (.iand, 1) := by decide +kernel
theorem d_hs6_89 : decode prog_62_method_2_code 89 = .ok (.istore_n 3, 1) := by decide +kernel
theorem d_hs6_90 : decode prog_62_method_2_code 90 = .ok (.iload_n 3, 1) := by decide +kernel
theorem d_hs6_91 : decode prog_62_method_2_code 91 = .ok (.ifCond .le 64, 3) := by decide +kernel
theorem d_hs6_94 : decode prog_62_method_2_code 94 = .ok (.aload_n 0, 1) := by decide +kernel
theorem d_hs6_95 : decode prog_62_method_2_code 95 = .ok (.iload_n 2, 1) := by decide +kernel
theorem d_hs6_96 : decode prog_62_method_2_code 96 = .ok (.baload, 1) := by decide +kernel
theorem d_hs6_97 : decode prog_62_method_2_code 97 = .ok (.sipush 255, 3) := by decide +kernel
theorem d_hs6_100 : decode prog_62_method_2_code 100 = .ok (.iand, 1) := by decide +kernel
theorem d_hs6_101 : decode prog_62_method_2_code 101 = .ok (.istore 4, 2) := by decide +kernel
theorem d_hs6_103 : decode prog_62_method_2_code 103 = .ok (.iload_n 3, 1) := by decide +kernel
theorem d_hs6_104 : decode prog_62_method_2_code 104 = .ok (.iconst 1, 1) := by decide +kernel
theorem d_hs6_105 : decode prog_62_method_2_code 105 = .ok (.if_icmp .le 20, 3) := by decide +kernel
theorem d_hs6_108 : decode prog_62_method_2_code 108 = .ok (.iload 4, 2) := by decide +kernel
theorem d_hs6_110 : decode prog_62_method_2_code 110 = .ok (.aload_n 0, 1) := by decide +kernel
theorem d_hs6_111 : decode prog_62_method_2_code 111 = .ok (.iload_n 2, 1) := by decide +kernel
theorem d_hs6_112 : decode prog_62_method_2_code 112 = .ok (.iconst 1, 1) := by decide +kernel
theorem d_hs6_113 : decode prog_62_method_2_code 113 = .ok (.iadd, 1) := by decide +kernel
theorem d_hs6_114 : decode prog_62_method_2_code 114 = .ok (.baload, 1) := by decide +kernel
theorem d_hs6_115 : decode prog_62_method_2_code 115 = .ok (.sipush 255, 3) := by decide +kernel
theorem d_hs6_118 : decode prog_62_method_2_code 118 = .ok (.iand, 1) := by decide +kernel
theorem d_hs6_119 : decode prog_62_method_2_code 119 = .ok (.bipush 8, 2) := by decide +kernel
theorem d_hs6_121 : decode prog_62_method_2_code 121 = .ok (.ishl, 1) := by decide +kernel
theorem d_hs6_122 : decode prog_62_method_2_code 122 = .ok (.ior, 1) := by decide +kernel
theorem d_hs6_123 : decode prog_62_method_2_code 123 = .ok (.istore 4, 2) := by decide +kernel
theorem d_hs6_125 : decode prog_62_method_2_code 125 = .ok (.iload_n 3, 1) := by decide +kernel
theorem d_hs6_126 : decode prog_62_method_2_code 126 = .ok (.iconst 2, 1) := by decide +kernel
theorem d_hs6_127 : decode prog_62_method_2_code 127 = .ok (.if_icmp .le 20, 3) := by decide +kernel
theorem d_hs6_147 : decode prog_62_method_2_code 147 = .ok (.iload_n 1, 1) := by decide +kernel
theorem d_hs6_148 : decode prog_62_method_2_code 148 = .ok (.iload 4, 2) := by decide +kernel
theorem d_hs6_150 : decode prog_62_method_2_code 150 = .ok (.invokestatic 7, 3) := by decide +kernel
theorem d_hs6_153 : decode prog_62_method_2_code 153 = .ok (.ixor, 1) := by decide +kernel
theorem d_hs6_154 : decode prog_62_method_2_code 154 = .ok (.istore_n 1, 1) := by decide +kernel
theorem d_hs6_155 : decode prog_62_method_2_code 155 = .ok (.iload_n 1, 1) := by decide +kernel
theorem d_hs6_156 : decode prog_62_method_2_code 156 = .ok (.aload_n 0, 1) := by decide +kernel
theorem d_hs6_157 : decode prog_62_method_2_code 157 = .ok (.arraylength, 1) := by decide +kernel
theorem d_hs6_158 : decode prog_62_method_2_code 158 = .ok (.ixor, 1) := by decide +kernel
theorem d_hs6_159 : decode prog_62_method_2_code 159 = .ok (.istore_n 1, 1) := by decide +kernel
theorem d_hs6_160 : decode prog_62_method_2_code 160 = .ok (.iload_n 1, 1) := by decide +kernel
theorem d_hs6_161 : decode prog_62_method_2_code 161 = .ok (.iload_n 1, 1) := by decide +kernel
theorem d_hs6_162 : decode prog_62_method_2_code 162 = .ok (.bipush 16, 2) := by decide +kernel
theorem d_hs6_164 : decode prog_62_method_2_code 164 = .ok (.iushr, 1) := by decide +kernel
theorem d_hs6_165 : decode prog_62_method_2_code 165 = .ok (.ixor, 1) := by decide +kernel
theorem d_hs6_166 : decode prog_62_method_2_code 166 = .ok (.istore_n 1, 1) := by decide +kernel
theorem d_hs6_167 : decode prog_62_method_2_code 167 = .ok (.iload_n 1, 1) := by decide +kernel
theorem d_hs6_168 : decode prog_62_method_2_code 168 = .ok (.ldc 20, 2) := by decide +kernel
theorem d_hs6_170 : decode prog_62_method_2_code 170 = .ok (.imul, 1) := by decide +kernel
theorem d_hs6_171 : decode prog_62_method_2_code 171 = .ok (.istore_n 1, 1) := by decide +kernel
theorem d_hs6_172 : decode prog_62_method_2_code 172 = .ok (.iload_n 1, 1) := by decide +kernel
theorem d_hs6_173 : decode prog_62_method_2_code 173 = .ok (.iload_n 1, 1) := by decide +kernel
theorem d_hs6_174 : decode prog_62_method_2_code 174 = .ok (.bipush 13, 2) := by decide +kernel
theorem d_hs6_176 : decode prog_62_method_2_code 176 = .ok (.iushr, 1) := by decide +kernel
theorem d_hs6_177 : decode prog_62_method_2_code 177 = .ok (.ixor, 1) := by decide +kernel
theorem d_hs6_178 : decode prog_62_method_2_code 178 = .ok (.istore_n 1, 1) := by decide +kernel
theorem d_hs6_179 : decode prog_62_method_2_code 179 = .ok (.iload_n 1, 1) := by decide +kernel
theorem d_hs6_180 : decode prog_62_method_2_code 180 = .ok (.ldc 21, 2) := by decide +kernel
theorem d_hs6_182 : decode prog_62_method_2_code 182 = .ok (.imul, 1) := by decide +kernel
theorem d_hs6_183 : decode prog_62_method_2_code 183 = .ok (.istore_n 1, 1) := by decide +kernel
theorem d_hs6_184 : decode prog_62_method_2_code 184 = .ok (.iload_n 1, 1) := by decide +kernel
theorem d_hs6_185 : decode prog_62_method_2_code 185 = .ok (.iload_n 1, 1) := by decide +kernel
theorem d_hs6_186 : decode prog_62_method_2_code 186 = .ok (.bipush 16, 2) := by decide +kernel
theorem d_hs6_188 : decode prog_62_method_2_code 188 = .ok (.iushr, 1) := by decide +kernel
theorem d_hs6_189 : decode prog_62_method_2_code 189 = .ok (.ixor, 1) := by decide +kernel
theorem d_hs6_190 : decode prog_62_method_2_code 190 = .ok (.ireturn, 1) := by decide +kernel
theorem ef_hs6 (m : MethodId) (a0 : Addr) : entryFrame m #[(.ref a0)] 5 = mkF m 0 #[.val (.ref a0), .unset, .unset, .unset, .unset] [] := by first | (simp [entryFrame, mkF, argsToLocals, Value.category]; done) | rfl
def F_hs6 (u0 : Int32) (u1 : Int32) (u2 : Int32) (u3 : Int32) (u4 : Int32) (u5 : Int32) : Int32 := ((((((((((F_rot ((0 : Int32) ^^^ (F_mix ((((u0 &&& (255 : Int32)) ||| ((u1 &&& (255 : Int32)) <<< ((8 : Int32) &&& 31))) ||| ((u2 &&& (255 : Int32)) <<< ((16 : Int32) &&& 31))) ||| (u3 <<< ((24 : Int32) &&& 31))))) (13 : Int32)) * (5 : Int32)) + (-430675100 : Int32)) ^^^ (F_mix ((u4 &&& (255 : Int32)) ||| ((u5 &&& (255 : Int32)) <<< ((8 : Int32) &&& 31))))) ^^^ (6 : Int32)) ^^^ (((((((F_rot ((0 : Int32) ^^^ (F_mix ((((u0 &&& (255 : Int32)) ||| ((u1 &&& (255 : Int32)) <<< ((8 : Int32) &&& 31))) ||| ((u2 &&& (255 : Int32)) <<< ((16 : Int32) &&& 31))) ||| (u3 <<< ((24 : Int32) &&& 31))))) (13 : Int32)) * (5 : Int32)) + (-430675100 : Int32)) ^^^ (F_mix ((u4 &&& (255 : Int32)) ||| ((u5 &&& (255 : Int32)) <<< ((8 : Int32) &&& 31))))) ^^^ (6 : Int32)).toUInt32 >>> ((16 : Int32) &&& 31).toUInt32).toInt32)) * (-2048144789 : Int32)) ^^^ (((((((((F_rot ((0 : Int32) ^^^ (F_mix ((((u0 &&& (255 : Int32)) ||| ((u1 &&& (255 : Int32)) <<< ((8 : Int32) &&& 31))) ||| ((u2 &&& (255 : Int32)) <<< ((16 : Int32) &&& 31))) ||| (u3 <<< ((24 : Int32) &&& 31))))) (13 : Int32)) * (5 : Int32)) + (-430675100 : Int32)) ^^^ (F_mix ((u4 &&& (255 : Int32)) ||| ((u5 &&& (255 : Int32)) <<< ((8 : Int32) &&& 31))))) ^^^ (6 : Int32)) ^^^ (((((((F_rot ((0 : Int32) ^^^ (F_mix ((((u0 &&& (255 : Int32)) ||| ((u1 &&& (255 : Int32)) <<< ((8 : Int32) &&& 31))) ||| ((u2 &&& (255 : Int32)) <<< ((16 : Int32) &&& 31))) ||| (u3 <<< ((24 : Int32) &&& 31))))) (13 : Int32)) * (5 : Int32)) + (-430675100 : Int32)) ^^^ (F_mix ((u4 &&& (255 : Int32)) ||| ((u5 &&& (255 : Int32)) <<< ((8 : Int32) &&& 31))))) ^^^ (6 : Int32)).toUInt32 >>> ((16 : Int32) &&& 31).toUInt32).toInt32)) * (-2048144789 : Int32)).toUInt32 >>> ((13 : Int32) &&& 31).toUInt32).toInt32)) * (-1028477387 : Int32)) ^^^ (((((((((((F_rot ((0 : Int32) ^^^ (F_mix ((((u0 &&& (255 : Int32)) ||| ((u1 &&& (255 : Int32)) <<< ((8 : Int32) &&& 31))) ||| ((u2 &&& (255 : Int32)) <<< ((16 : Int32) &&& 31))) ||| (u3 <<< ((24 : Int32) &&& 31))))) (13 : Int32)) * (5 : Int32)) + (-430675100 : Int32)) ^^^ (F_mix ((u4 &&& (255 : Int32)) ||| ((u5 &&& (255 : Int32)) <<< ((8 : Int32) &&& 31))))) ^^^ (6 : Int32)) ^^^ (((((((F_rot ((0 : Int32) ^^^ (F_mix ((((u0 &&& (255 : Int32)) ||| ((u1 &&& (255 : Int32)) <<< ((8 : Int32) &&& 31))) ||| ((u2 &&& (255 : Int32)) <<< ((16 : Int32) &&& 31))) ||| (u3 <<< ((24 : Int32) &&& 31))))) (13 : Int32)) * (5 : Int32)) + (-430675100 : Int32)) ^^^ (F_mix ((u4 &&& (255 : Int32)) ||| ((u5 &&& (255 : Int32)) <<< ((8 : Int32) &&& 31))))) ^^^ (6 : Int32)).toUInt32 >>> ((16 : Int32) &&& 31).toUInt32).toInt32)) * (-2048144789 : Int32)) ^^^ (((((((((F_rot ((0 : Int32) ^^^ (F_mix ((((u0 &&& (255 : Int32)) ||| ((u1 &&& (255 : Int32)) <<< ((8 : Int32) &&& 31))) ||| ((u2 &&& (255 : Int32)) <<< ((16 : Int32) &&& 31))) ||| (u3 <<< ((24 : Int32) &&& 31))))) (13 : Int32)) * (5 : Int32)) + (-430675100 : Int32)) ^^^ (F_mix ((u4 &&& (255 : Int32)) ||| ((u5 &&& (255 : Int32)) <<< ((8 : Int32) &&& 31))))) ^^^ (6 : Int32)) ^^^ (((((((F_rot ((0 : Int32) ^^^ (F_mix ((((u0 &&& (255 : Int32)) ||| ((u1 &&& (255 : Int32)) <<< ((8 : Int32) &&& 31))) ||| ((u2 &&& (255 : Int32)) <<< ((16 : Int32) &&& 31))) ||| (u3 <<< ((24 : Int32) &&& 31))))) (13 : Int32)) * (5 : Int32)) + (-430675100 : Int32)) ^^^ (F_mix ((u4 &&& (255 : Int32)) ||| ((u5 &&& (255 : Int32)) <<< ((8 : Int32) &&& 31))))) ^^^ (6 : Int32)).toUInt32 >>> ((16 : Int32) &&& 31).toUInt32).toInt32)) * (-2048144789 : Int32)).toUInt32 >>> ((13 : Int32) &&& 31).toUInt32).toInt32)) * (-1028477387 : Int32)).toUInt32 >>> ((16 : Int32) &&& 31).toUInt32).toInt32))
def Q_hs6 (Z : State) (a0 : Addr) (kk : ClassId) (u0 : Int32) (u1 : Int32) (u2 : Int32) (u3 : Int32) (u4 : Int32) (u5 : Int32) (h0 : Heap) (n0 : Nat) (v : Option Value) (h : Heap) (L : List Loc) : Prop := v = some (.int (F_hs6 u0 u1 u2 u3 u4 u5)) ∧ Fr n0 L ∧ h = h0
set_option maxRecDepth 65536 in
set_option maxHeartbeats 40000000 in
theorem rm_hs6 (l : Launch) (Z : State) (aT : Array Value) (hw : ∀ d ∈ tables_1, d.before aT Z = true) (ws : List Jvm.Cond) (a0 : Addr) (kk : ClassId) (u0 : Int32) (u1 : Int32) (u2 : Int32) (u3 : Int32) (u4 : Int32) (u5 : Int32) (h0 : Heap) (n0 : Nat) (Z0 : n0 ≤ h0.size) (hp0 : Arv Z h0 a0 kk .byte (6 : Int32) [(.int u0), (.int u1), (.int u2), (.int u3), (.int u4), (.int u5)] (.int (0 : Int32))) :
    MetFree l (⟨"com/example/farshard/farshard/store/Murmur3", "hash32", "([B)I"⟩ : MethodName) (head1 (Jvm.Cond.code (⟨"com/example/farshard/farshard/store/Murmur3", "hash32", "([B)I"⟩ : MethodName) prog_62_method_2_code 5 (some .int) :: ws) ({ frames := 2, cells := 0, slots := 0, locals := 26 } : Room)) (fun a U => a = #[(.ref a0)] ∧ Z.Warmed39 U.vm ∧ U.heap = h0) (fun _ _ _ _ _ => True) (fun _ U o U' => ∃ v L, o = .returned v ∧ Q_hs6 Z a0 kk u0 u1 u2 u3 u4 u5 h0 n0 v U'.heap L ∧ FrameEnd U o U' L ({ frames := 2, cells := 0, slots := 0, locals := 26 } : Room).cells ({ frames := 2, cells := 0, slots := 0, locals := 26 } : Room).slots) := by
  refine MetFree.of_bodySF (plainFor_of_name pn1) hisR ?_
  intro p e s m args below meth c s₁ Bd hml0 hP hK
  obtain ⟨rfl, hZ, hh⟩ := hP
  have hx := Bd.exec
  have hby := Bd.bytes
  have hml : c.maxLocals = 5 := hml0
  have hown : s.vm.findClass "com/example/farshard/farshard/store/Murmur3" = some m.cls := findClass_of_methodNamed Bd.named
  have hnm := (name_of_methodNamed Bd.named Bd.method).1
  have hlk := Bd.notSynchronized
  have hrt := Bd.returns
  have X0 : Stand p l e ({ frames := 2, cells := 0, slots := 0, locals := 26 } : Room) s m #[(.ref a0)] below meth c s₁ [] 0 0 := Stand.of_body Bd
  have e0 : s₁.heap = h0 := by rw [← hh, Bd.state]; rfl
  have N0 := Fr.nil n0
  refine own_cast (P := own_End s (Q_hs6 Z a0 kk u0 u1 u2 u3 u4 u5 h0 n0) ({ frames := 2, cells := 0, slots := 0, locals := 26 } : Room).cells ({ frames := 2, cells := 0, slots := 0, locals := 26 } : Room).slots) (ef_hs6 m a0) ?_
  refine g_iconst X0 hx hby (0 : Int32) d_hs6_0 (by decide) (rfl : 0 + 1 = 1) ?_
  refine g_istoreN X0 hx hby #[.val (.ref a0), .val (.int (0 : Int32)), .unset, .unset, .unset] d_hs6_1 rfl (rfl : 1 + 1 = 2) ?_
  refine g_aloadN X0 hx hby d_hs6_2 rfl rfl (rfl : 2 + 1 = 3) ?_
  refine g_alen X0 hx hby hZ e0 hp0 d_hs6_3 (rfl : 3 + 1 = 4) ?_
  refine g_bipush X0 hx hby (-4 : Int32) d_hs6_4 (by decide) (rfl : 4 + 2 = 6) ?_
  refine g_iand X0 hx hby d_hs6_6 (rfl : 6 + 1 = 7) ?_
  rw [(by decide : ((6 : Int32) &&& (-4 : Int32)) = (4 : Int32))]
  refine g_istoreN X0 hx hby #[.val (.ref a0), .val (.int (0 : Int32)), .val (.int (4 : Int32)), .unset, .unset] d_hs6_7 rfl (rfl : 7 + 1 = 8) ?_
  refine g_iconst X0 hx hby (0 : Int32) d_hs6_8 (by decide) (rfl : 8 + 1 = 9) ?_
  refine g_istoreN X0 hx hby #[.val (.ref a0), .val (.int (0 : Int32)), .val (.int (4 : Int32)), .val (.int (0 : Int32)), .unset] d_hs6_9 rfl (rfl : 9 + 1 = 10) ?_
  refine g_iloadN X0 hx hby d_hs6_10 rfl (rfl : 10 + 1 = 11) ?_
  refine g_iloadN X0 hx hby d_hs6_11 rfl (rfl : 11 + 1 = 12) ?_
  refine g_icF X0 hx hby d_hs6_12 (tlt (by decide : (0 : Int32) < (4 : Int32))).2.1 (rfl : 12 + 3 = 15) ?_
  refine g_aloadN X0 hx hby d_hs6_15 rfl rfl (rfl : 15 + 1 = 16) ?_
  refine g_iloadN X0 hx hby d_hs6_16 rfl (rfl : 16 + 1 = 17) ?_
  refine g_baload X0 hx hby hZ e0 (v := (.int u0)) hp0 ⟨by decide, by decide⟩ rfl d_hs6_17 (rfl : 17 + 1 = 18) ?_
  refine g_sipush X0 hx hby (255 : Int32) d_hs6_18 (by decide) (rfl : 18 + 3 = 21) ?_
  refine g_iand X0 hx hby d_hs6_21 (rfl : 21 + 1 = 22) ?_
  refine g_aloadN X0 hx hby d_hs6_22 rfl rfl (rfl : 22 + 1 = 23) ?_
  refine g_iloadN X0 hx hby d_hs6_23 rfl (rfl : 23 + 1 = 24) ?_
  refine g_iconst X0 hx hby (1 : Int32) d_hs6_24 (by decide) (rfl : 24 + 1 = 25) ?_
  refine g_iadd X0 hx hby d_hs6_25 (rfl : 25 + 1 = 26) ?_
  rw [(by decide : ((0 : Int32) + (1 : Int32)) = (1 : Int32))]
  refine g_baload X0 hx hby hZ e0 (v := (.int u1)) hp0 ⟨by decide, by decide⟩ rfl d_hs6_26 (rfl : 26 + 1 = 27) ?_
  refine g_sipush X0 hx hby (255 : Int32) d_hs6_27 (by decide) (rfl : 27 + 3 = 30) ?_
  refine g_iand X0 hx hby d_hs6_30 (rfl : 30 + 1 = 31) ?_
  refine g_bipush X0 hx hby (8 : Int32) d_hs6_31 (by decide) (rfl : 31 + 2 = 33) ?_
  refine g_ishl X0 hx hby d_hs6_33 (rfl : 33 + 1 = 34) ?_
  refine g_ior X0 hx hby d_hs6_34 (rfl : 34 + 1 = 35) ?_
  refine g_aloadN X0 hx hby d_hs6_35 rfl rfl (rfl : 35 + 1 = 36) ?_
  refine g_iloadN X0 hx hby d_hs6_36 rfl (rfl : 36 + 1 = 37) ?_
  refine g_iconst X0 hx hby (2 : Int32) d_hs6_37 (by decide) (rfl : 37 + 1 = 38) ?_
  refine g_iadd X0 hx hby d_hs6_38 (rfl : 38 + 1 = 39) ?_
  rw [(by decide : ((0 : Int32) + (2 : Int32)) = (2 : Int32))]
  refine g_baload X0 hx hby hZ e0 (v := (.int u2)) hp0 ⟨by decide, by decide⟩ rfl d_hs6_39 (rfl : 39 + 1 = 40) ?_
  refine g_sipush X0 hx hby (255 : Int32) d_hs6_40 (by decide) (rfl : 40 + 3 = 43) ?_
  refine g_iand X0 hx hby d_hs6_43 (rfl : 43 + 1 = 44) ?_
  refine g_bipush X0 hx hby (16 : Int32) d_hs6_44 (by decide) (rfl : 44 + 2 = 46) ?_
  refine g_ishl X0 hx hby d_hs6_46 (rfl : 46 + 1 = 47) ?_
  refine g_ior X0 hx hby d_hs6_47 (rfl : 47 + 1 = 48) ?_
  refine g_aloadN X0 hx hby d_hs6_48 rfl rfl (rfl : 48 + 1 = 49) ?_
  refine g_iloadN X0 hx hby d_hs6_49 rfl (rfl : 49 + 1 = 50) ?_
  refine g_iconst X0 hx hby (3 : Int32) d_hs6_50 (by decide) (rfl : 50 + 1 = 51) ?_
  refine g_iadd X0 hx hby d_hs6_51 (rfl : 51 + 1 = 52) ?_
  rw [(by decide : ((0 : Int32) + (3 : Int32)) = (3 : Int32))]
  refine g_baload X0 hx hby hZ e0 (v := (.int u3)) hp0 ⟨by decide, by decide⟩ rfl d_hs6_52 (rfl : 52 + 1 = 53) ?_
  refine g_bipush X0 hx hby (24 : Int32) d_hs6_53 (by decide) (rfl : 53 + 2 = 55) ?_
  refine g_ishl X0 hx hby d_hs6_55 (rfl : 55 + 1 = 56) ?_
  refine g_ior X0 hx hby d_hs6_56 (rfl : 56 + 1 = 57) ?_
  refine g_istore X0 hx hby #[.val (.ref a0), .val (.int (0 : Int32)), .val (.int (4 : Int32)), .val (.int (0 : Int32)), .val (.int ((((u0 &&& (255 : Int32)) ||| ((u1 &&& (255 : Int32)) <<< ((8 : Int32) &&& 31))) ||| ((u2 &&& (255 : Int32)) <<< ((16 : Int32) &&& 31))) ||| (u3 <<< ((24 : Int32) &&& 31))))] d_hs6_57 rfl (rfl : 57 + 2 = 59) ?_
  refine g_iloadN X0 hx hby d_hs6_59 rfl (rfl : 59 + 1 = 60) ?_
  refine g_iload X0 hx hby d_hs6_60 rfl (rfl : 60 + 2 = 62) ?_
  obtain ⟨_, _, ⟨T15, L15, k15, n15⟩, -, X15, ⟨Lc15, hQ15, l15, y15, z15⟩, st15⟩ := Jvm.LawKit.callS X0 hx (y := (⟨"com/example/farshard/farshard/store/Murmur3", "mixBlock", "(I)I"⟩ : MethodName)) hown (mvT hZ (hw _ (List.mem_of_getElem? (i := 17) rfl))) (mvT hZ (hw _ (List.mem_of_getElem? (i := 18) rfl))) (mvT hZ (hw _ (List.mem_of_getElem? (i := 4) rfl))) (mvT hZ (hw _ (List.mem_of_getElem? (i := 19) rfl))) (by decide) (backOf (W := 1) (rm_mix l Z aT hw [] ((((u0 &&& (255 : Int32)) ||| ((u1 &&& (255 : Int32)) <<< ((8 : Int32) &&& 31))) ||| ((u2 &&& (255 : Int32)) <<< ((16 : Int32) &&& 31))) ||| (u3 <<< ((24 : Int32) &&& 31))) h0 n0 Z0) hZ (hw _ (List.mem_of_getElem? (i := 19) rfl)) (hw _ (List.mem_of_getElem? (i := 4) rfl)) (by decide) (by decide)) (g := (mkF m 62 #[.val (.ref a0), .val (.int (0 : Int32)), .val (.int (4 : Int32)), .val (.int (0 : Int32)), .val (.int ((((u0 &&& (255 : Int32)) ||| ((u1 &&& (255 : Int32)) <<< ((8 : Int32) &&& 31))) ||| ((u2 &&& (255 : Int32)) <<< ((16 : Int32) &&& 31))) ||| (u3 <<< ((24 : Int32) &&& 31))))] [(.int ((((u0 &&& (255 : Int32)) ||| ((u1 &&& (255 : Int32)) <<< ((8 : Int32) &&& 31))) ||| ((u2 &&& (255 : Int32)) <<< ((16 : Int32) &&& 31))) ||| (u3 <<< ((24 : Int32) &&& 31)))), (.int (0 : Int32))])) rfl (by rw [hml]; rfl) (argsL := [(.int ((((u0 &&& (255 : Int32)) ||| ((u1 &&& (255 : Int32)) <<< ((8 : Int32) &&& 31))) ||| ((u2 &&& (255 : Int32)) <<< ((16 : Int32) &&& 31))) ||| (u3 <<< ((24 : Int32) &&& 31))))]) (rest := [(.int (0 : Int32))]) (lenOf pd1 rfl) rfl (by show 2 * 0 + _ ≤ _; exact Nat.le_of_eq rfl) (hb hby d_hs6_62) (fun _ _ => ⟨rfl, e0, (by decide : 0 + 0 ≤ _), (by decide : 0 + 0 ≤ _)⟩)
  dsimp only [Pt.U, Pt.locs, Pt.cells, Pt.slots] at X15 l15 y15 z15 st15 hQ15
  subst l15 y15 z15
  obtain ⟨rfl, N15q, eq15⟩ := hQ15
  have N15 := Fr.app N0 N15q
  refine own_go st15 ?_
  show own_Got p e below _ T15 (mkF m 65 #[.val (.ref a0), .val (.int (0 : Int32)), .val (.int (4 : Int32)), .val (.int (0 : Int32)), .val (.int ((((u0 &&& (255 : Int32)) ||| ((u1 &&& (255 : Int32)) <<< ((8 : Int32) &&& 31))) ||| ((u2 &&& (255 : Int32)) <<< ((16 : Int32) &&& 31))) ||| (u3 <<< ((24 : Int32) &&& 31))))] [(.int (F_mix ((((u0 &&& (255 : Int32)) ||| ((u1 &&& (255 : Int32)) <<< ((8 : Int32) &&& 31))) ||| ((u2 &&& (255 : Int32)) <<< ((16 : Int32) &&& 31))) ||| (u3 <<< ((24 : Int32) &&& 31))))), (.int (0 : Int32))])
  refine g_ixor X15 hx hby d_hs6_65 (rfl : 65 + 1 = 66) ?_
  refine g_istoreN X15 hx hby #[.val (.ref a0), .val (.int ((0 : Int32) ^^^ (F_mix ((((u0 &&& (255 : Int32)) ||| ((u1 &&& (255 : Int32)) <<< ((8 : Int32) &&& 31))) ||| ((u2 &&& (255 : Int32)) <<< ((16 : Int32) &&& 31))) ||| (u3 <<< ((24 : Int32) &&& 31)))))), .val (.int (4 : Int32)), .val (.int (0 : Int32)), .val (.int ((((u0 &&& (255 : Int32)) ||| ((u1 &&& (255 : Int32)) <<< ((8 : Int32) &&& 31))) ||| ((u2 &&& (255 : Int32)) <<< ((16 : Int32) &&& 31))) ||| (u3 <<< ((24 : Int32) &&& 31))))] d_hs6_66 rfl (rfl : 66 + 1 = 67) ?_
  refine g_iloadN X15 hx hby d_hs6_67 rfl (rfl : 67 + 1 = 68) ?_
  refine g_bipush X15 hx hby (13 : Int32) d_hs6_68 (by decide) (rfl : 68 + 2 = 70) ?_
  obtain ⟨_, _, ⟨T16, L16, k16, n16⟩, -, X16, ⟨Lc16, hQ16, l16, y16, z16⟩, st16⟩ := Jvm.LawKit.callS X15 hx (y := (⟨"java/lang/Integer", "rotateLeft", "(II)I"⟩ : MethodName)) hown (mvT hZ (hw _ (List.mem_of_getElem? (i := 21) rfl))) (mvT hZ (hw _ (List.mem_of_getElem? (i := 22) rfl))) (mvT hZ (hw _ (List.mem_of_getElem? (i := 23) rfl))) (mvT hZ (hw _ (List.mem_of_getElem? (i := 24) rfl))) (by decide) (backOf (W := 0) (rm_rot l Z aT hw [] ((0 : Int32) ^^^ (F_mix ((((u0 &&& (255 : Int32)) ||| ((u1 &&& (255 : Int32)) <<< ((8 : Int32) &&& 31))) ||| ((u2 &&& (255 : Int32)) <<< ((16 : Int32) &&& 31))) ||| (u3 <<< ((24 : Int32) &&& 31))))) (13 : Int32) h0 n0 Z0) hZ (hw _ (List.mem_of_getElem? (i := 24) rfl)) (hw _ (List.mem_of_getElem? (i := 23) rfl)) (by decide) (by decide)) (g := (mkF m 70 #[.val (.ref a0), .val (.int ((0 : Int32) ^^^ (F_mix ((((u0 &&& (255 : Int32)) ||| ((u1 &&& (255 : Int32)) <<< ((8 : Int32) &&& 31))) ||| ((u2 &&& (255 : Int32)) <<< ((16 : Int32) &&& 31))) ||| (u3 <<< ((24 : Int32) &&& 31)))))), .val (.int (4 : Int32)), .val (.int (0 : Int32)), .val (.int ((((u0 &&& (255 : Int32)) ||| ((u1 &&& (255 : Int32)) <<< ((8 : Int32) &&& 31))) ||| ((u2 &&& (255 : Int32)) <<< ((16 : Int32) &&& 31))) ||| (u3 <<< ((24 : Int32) &&& 31))))] [(.int (13 : Int32)), (.int ((0 : Int32) ^^^ (F_mix ((((u0 &&& (255 : Int32)) ||| ((u1 &&& (255 : Int32)) <<< ((8 : Int32) &&& 31))) ||| ((u2 &&& (255 : Int32)) <<< ((16 : Int32) &&& 31))) ||| (u3 <<< ((24 : Int32) &&& 31))))))])) rfl (by rw [hml]; rfl) (argsL := [(.int ((0 : Int32) ^^^ (F_mix ((((u0 &&& (255 : Int32)) ||| ((u1 &&& (255 : Int32)) <<< ((8 : Int32) &&& 31))) ||| ((u2 &&& (255 : Int32)) <<< ((16 : Int32) &&& 31))) ||| (u3 <<< ((24 : Int32) &&& 31)))))), (.int (13 : Int32))]) (rest := []) (lenOf pd0 rfl) rfl (by show 2 * 0 + _ ≤ _; exact Nat.le_of_eq rfl) (hb hby d_hs6_70) (fun _ _ => ⟨rfl, eq15, (by decide : 0 + 0 ≤ _), (by decide : 0 + 0 ≤ _)⟩)
  dsimp only [Pt.U, Pt.locs, Pt.cells, Pt.slots] at X16 l16 y16 z16 st16 hQ16
  subst l16 y16 z16
  obtain ⟨rfl, N16q, eq16⟩ := hQ16
  have N16 := Fr.app N15 N16q
  refine own_go st16 ?_
  show own_Got p e below _ T16 (mkF m 73 #[.val (.ref a0), .val (.int ((0 : Int32) ^^^ (F_mix ((((u0 &&& (255 : Int32)) ||| ((u1 &&& (255 : Int32)) <<< ((8 : Int32) &&& 31))) ||| ((u2 &&& (255 : Int32)) <<< ((16 : Int32) &&& 31))) ||| (u3 <<< ((24 : Int32) &&& 31)))))), .val (.int (4 : Int32)), .val (.int (0 : Int32)), .val (.int ((((u0 &&& (255 : Int32)) ||| ((u1 &&& (255 : Int32)) <<< ((8 : Int32) &&& 31))) ||| ((u2 &&& (255 : Int32)) <<< ((16 : Int32) &&& 31))) ||| (u3 <<< ((24 : Int32) &&& 31))))] [(.int (F_rot ((0 : Int32) ^^^ (F_mix ((((u0 &&& (255 : Int32)) ||| ((u1 &&& (255 : Int32)) <<< ((8 : Int32) &&& 31))) ||| ((u2 &&& (255 : Int32)) <<< ((16 : Int32) &&& 31))) ||| (u3 <<< ((24 : Int32) &&& 31))))) (13 : Int32)))])
  refine g_iconst X16 hx hby (5 : Int32) d_hs6_73 (by decide) (rfl : 73 + 1 = 74) ?_
  refine g_imul X16 hx hby d_hs6_74 (rfl : 74 + 1 = 75) ?_
  refine g_ldcI X16 hx hby hZ hown (hw _ (List.mem_of_getElem? (i := 31) rfl)) d_hs6_75 (rfl : 75 + 2 = 77) ?_
  refine g_iadd X16 hx hby d_hs6_77 (rfl : 77 + 1 = 78) ?_
  refine g_istoreN X16 hx hby #[.val (.ref a0), .val (.int (((F_rot ((0 : Int32) ^^^ (F_mix ((((u0 &&& (255 : Int32)) ||| ((u1 &&& (255 : Int32)) <<< ((8 : Int32) &&& 31))) ||| ((u2 &&& (255 : Int32)) <<< ((16 : Int32) &&& 31))) ||| (u3 <<< ((24 : Int32) &&& 31))))) (13 : Int32)) * (5 : Int32)) + (-430675100 : Int32))), .val (.int (4 : Int32)), .val (.int (0 : Int32)), .val (.int ((((u0 &&& (255 : Int32)) ||| ((u1 &&& (255 : Int32)) <<< ((8 : Int32) &&& 31))) ||| ((u2 &&& (255 : Int32)) <<< ((16 : Int32) &&& 31))) ||| (u3 <<< ((24 : Int32) &&& 31))))] d_hs6_78 rfl (rfl : 78 + 1 = 79) ?_
  refine g_iinc X16 hx hby #[.val (.ref a0), .val (.int (((F_rot ((0 : Int32) ^^^ (F_mix ((((u0 &&& (255 : Int32)) ||| ((u1 &&& (255 : Int32)) <<< ((8 : Int32) &&& 31))) ||| ((u2 &&& (255 : Int32)) <<< ((16 : Int32) &&& 31))) ||| (u3 <<< ((24 : Int32) &&& 31))))) (13 : Int32)) * (5 : Int32)) + (-430675100 : Int32))), .val (.int (4 : Int32)), .val (.int ((0 : Int32) + (4 : Int32))), .val (.int ((((u0 &&& (255 : Int32)) ||| ((u1 &&& (255 : Int32)) <<< ((8 : Int32) &&& 31))) ||| ((u2 &&& (255 : Int32)) <<< ((16 : Int32) &&& 31))) ||| (u3 <<< ((24 : Int32) &&& 31))))] d_hs6_79 rfl rfl (rfl : 79 + 3 = 82) ?_
  rw [(by decide : ((0 : Int32) + (4 : Int32)) = (4 : Int32))]
  refine g_goto X16 hx hby d_hs6_82 (by decide) (pc' := 10) (by decide) ?_
  refine g_iloadN X16 hx hby d_hs6_10 rfl (rfl : 10 + 1 = 11) ?_
  refine g_iloadN X16 hx hby d_hs6_11 rfl (rfl : 11 + 1 = 12) ?_
  refine g_icT X16 hx hby d_hs6_12 (flt (by decide : ¬ ((4 : Int32) < (4 : Int32)))).2.1 (by decide) (pc' := 85) (by decide) ?_
  refine g_aloadN X16 hx hby d_hs6_85 rfl rfl (rfl : 85 + 1 = 86) ?_
  refine g_alen X16 hx hby hZ eq16 hp0 d_hs6_86 (rfl : 86 + 1 = 87) ?_
  refine g_iconst X16 hx hby (3 : Int32) d_hs6_87 (by decide) (rfl : 87 + 1 = 88) ?_
  refine g_iand X16 hx hby d_hs6_88 (rfl : 88 + 1 = 89) ?_
  rw [(by decide : ((6 : Int32) &&& (3 : Int32)) = (2 : Int32))]
  refine g_istoreN X16 hx hby #[.val (.ref a0), .val (.int (((F_rot ((0 : Int32) ^^^ (F_mix ((((u0 &&& (255 : Int32)) ||| ((u1 &&& (255 : Int32)) <<< ((8 : Int32) &&& 31))) ||| ((u2 &&& (255 : Int32)) <<< ((16 : Int32) &&& 31))) ||| (u3 <<< ((24 : Int32) &&& 31))))) (13 : Int32)) * (5 : Int32)) + (-430675100 : Int32))), .val (.int (4 : Int32)), .val (.int (2 : Int32)), .val (.int ((((u0 &&& (255 : Int32)) ||| ((u1 &&& (255 : Int32)) <<< ((8 : Int32) &&& 31))) ||| ((u2 &&& (255 : Int32)) <<< ((16 : Int32) &&& 31))) ||| (u3 <<< ((24 : Int32) &&& 31))))] d_hs6_89 rfl (rfl : 89 + 1 = 90) ?_
  refine g_iloadN X16 hx hby d_hs6_90 rfl (rfl : 90 + 1 = 91) ?_
  refine g_ifF X16 hx hby d_hs6_91 ((if0 _ _).trans (tlt (by decide : (0 : Int32) < (2 : Int32))).2.2.2) (rfl : 91 + 3 = 94) ?_
  refine g_aloadN X16 hx hby d_hs6_94 rfl rfl (rfl : 94 + 1 = 95) ?_
  refine g_iloadN X16 hx hby d_hs6_95 rfl (rfl : 95 + 1 = 96) ?_
  refine g_baload X16 hx hby hZ eq16 (v := (.int u4)) hp0 ⟨by decide, by decide⟩ rfl d_hs6_96 (rfl : 96 + 1 = 97) ?_
  refine g_sipush X16 hx hby (255 : Int32) d_hs6_97 (by decide) (rfl : 97 + 3 = 100) ?_
  refine g_iand X16 hx hby d_hs6_100 (rfl : 100 + 1 = 101) ?_
  refine g_istore X16 hx hby #[.val (.ref a0), .val (.int (((F_rot ((0 : Int32) ^^^ (F_mix ((((u0 &&& (255 : Int32)) ||| ((u1 &&& (255 : Int32)) <<< ((8 : Int32) &&& 31))) ||| ((u2 &&& (255 : Int32)) <<< ((16 : Int32) &&& 31))) ||| (u3 <<< ((24 : Int32) &&& 31))))) (13 : Int32)) * (5 : Int32)) + (-430675100 : Int32))), .val (.int (4 : Int32)), .val (.int (2 : Int32)), .val (.int (u4 &&& (255 : Int32)))] d_hs6_101 rfl (rfl : 101 + 2 = 103) ?_
  refine g_iloadN X16 hx hby d_hs6_103 rfl (rfl : 103 + 1 = 104) ?_
  refine g_iconst X16 hx hby (1 : Int32) d_hs6_104 (by decide) (rfl : 104 + 1 = 105) ?_
  refine g_icF X16 hx hby d_hs6_105 (tlt (by decide : (1 : Int32) < (2 : Int32))).2.2.2 (rfl : 105 + 3 = 108) ?_
  refine g_iload X16 hx hby d_hs6_108 rfl (rfl : 108 + 2 = 110) ?_
  refine g_aloadN X16 hx hby d_hs6_110 rfl rfl (rfl : 110 + 1 = 111) ?_
  refine g_iloadN X16 hx hby d_hs6_111 rfl (rfl : 111 + 1 = 112) ?_
  refine g_iconst X16 hx hby (1 : Int32) d_hs6_112 (by decide) (rfl : 112 + 1 = 113) ?_
  refine g_iadd X16 hx hby d_hs6_113 (rfl : 113 + 1 = 114) ?_
  rw [(by decide : ((4 : Int32) + (1 : Int32)) = (5 : Int32))]
  refine g_baload X16 hx hby hZ eq16 (v := (.int u5)) hp0 ⟨by decide, by decide⟩ rfl d_hs6_114 (rfl : 114 + 1 = 115) ?_
  refine g_sipush X16 hx hby (255 : Int32) d_hs6_115 (by decide) (rfl : 115 + 3 = 118) ?_
  refine g_iand X16 hx hby d_hs6_118 (rfl : 118 + 1 = 119) ?_
  refine g_bipush X16 hx hby (8 : Int32) d_hs6_119 (by decide) (rfl : 119 + 2 = 121) ?_
  refine g_ishl X16 hx hby d_hs6_121 (rfl : 121 + 1 = 122) ?_
  refine g_ior X16 hx hby d_hs6_122 (rfl : 122 + 1 = 123) ?_
  refine g_istore X16 hx hby #[.val (.ref a0), .val (.int (((F_rot ((0 : Int32) ^^^ (F_mix ((((u0 &&& (255 : Int32)) ||| ((u1 &&& (255 : Int32)) <<< ((8 : Int32) &&& 31))) ||| ((u2 &&& (255 : Int32)) <<< ((16 : Int32) &&& 31))) ||| (u3 <<< ((24 : Int32) &&& 31))))) (13 : Int32)) * (5 : Int32)) + (-430675100 : Int32))), .val (.int (4 : Int32)), .val (.int (2 : Int32)), .val (.int ((u4 &&& (255 : Int32)) ||| ((u5 &&& (255 : Int32)) <<< ((8 : Int32) &&& 31))))] d_hs6_123 rfl (rfl : 123 + 2 = 125) ?_
  refine g_iloadN X16 hx hby d_hs6_125 rfl (rfl : 125 + 1 = 126) ?_
  refine g_iconst X16 hx hby (2 : Int32) d_hs6_126 (by decide) (rfl : 126 + 1 = 127) ?_
  refine g_icT X16 hx hby d_hs6_127 (flt (by decide : ¬ ((2 : Int32) < (2 : Int32)))).2.2.2 (by decide) (pc' := 147) (by decide) ?_
  refine g_iloadN X16 hx hby d_hs6_147 rfl (rfl : 147 + 1 = 148) ?_
  refine g_iload X16 hx hby d_hs6_148 rfl (rfl : 148 + 2 = 150) ?_
  obtain ⟨_, _, ⟨T17, L17, k17, n17⟩, -, X17, ⟨Lc17, hQ17, l17, y17, z17⟩, st17⟩ := Jvm.LawKit.callS X16 hx (y := (⟨"com/example/farshard/farshard/store/Murmur3", "mixBlock", "(I)I"⟩ : MethodName)) hown (mvT hZ (hw _ (List.mem_of_getElem? (i := 17) rfl))) (mvT hZ (hw _ (List.mem_of_getElem? (i := 18) rfl))) (mvT hZ (hw _ (List.mem_of_getElem? (i := 4) rfl))) (mvT hZ (hw _ (List.mem_of_getElem? (i := 19) rfl))) (by decide) (backOf (W := 1) (rm_mix l Z aT hw [] ((u4 &&& (255 : Int32)) ||| ((u5 &&& (255 : Int32)) <<< ((8 : Int32) &&& 31))) h0 n0 Z0) hZ (hw _ (List.mem_of_getElem? (i := 19) rfl)) (hw _ (List.mem_of_getElem? (i := 4) rfl)) (by decide) (by decide)) (g := (mkF m 150 #[.val (.ref a0), .val (.int (((F_rot ((0 : Int32) ^^^ (F_mix ((((u0 &&& (255 : Int32)) ||| ((u1 &&& (255 : Int32)) <<< ((8 : Int32) &&& 31))) ||| ((u2 &&& (255 : Int32)) <<< ((16 : Int32) &&& 31))) ||| (u3 <<< ((24 : Int32) &&& 31))))) (13 : Int32)) * (5 : Int32)) + (-430675100 : Int32))), .val (.int (4 : Int32)), .val (.int (2 : Int32)), .val (.int ((u4 &&& (255 : Int32)) ||| ((u5 &&& (255 : Int32)) <<< ((8 : Int32) &&& 31))))] [(.int ((u4 &&& (255 : Int32)) ||| ((u5 &&& (255 : Int32)) <<< ((8 : Int32) &&& 31)))), (.int (((F_rot ((0 : Int32) ^^^ (F_mix ((((u0 &&& (255 : Int32)) ||| ((u1 &&& (255 : Int32)) <<< ((8 : Int32) &&& 31))) ||| ((u2 &&& (255 : Int32)) <<< ((16 : Int32) &&& 31))) ||| (u3 <<< ((24 : Int32) &&& 31))))) (13 : Int32)) * (5 : Int32)) + (-430675100 : Int32)))])) rfl (by rw [hml]; rfl) (argsL := [(.int ((u4 &&& (255 : Int32)) ||| ((u5 &&& (255 : Int32)) <<< ((8 : Int32) &&& 31))))]) (rest := [(.int (((F_rot ((0 : Int32) ^^^ (F_mix ((((u0 &&& (255 : Int32)) ||| ((u1 &&& (255 : Int32)) <<< ((8 : Int32) &&& 31))) ||| ((u2 &&& (255 : Int32)) <<< ((16 : Int32) &&& 31))) ||| (u3 <<< ((24 : Int32) &&& 31))))) (13 : Int32)) * (5 : Int32)) + (-430675100 : Int32)))]) (lenOf pd1 rfl) rfl (by show 2 * 0 + _ ≤ _; exact Nat.le_of_eq rfl) (hb hby d_hs6_150) (fun _ _ => ⟨rfl, eq16, (by decide : 0 + 0 ≤ _), (by decide : 0 + 0 ≤ _)⟩)
  dsimp only [Pt.U, Pt.locs, Pt.cells, Pt.slots] at X17 l17 y17 z17 st17 hQ17
  subst l17 y17 z17
  obtain ⟨rfl, N17q, eq17⟩ := hQ17
  have N17 := Fr.app N16 N17q
  refine own_go st17 ?_
  show own_Got p e below _ T17 (mkF m 153 #[.val (.ref a0), .val (.int (((F_rot ((0 : Int32) ^^^ (F_mix ((((u0 &&& (255 : Int32)) ||| ((u1 &&& (255 : Int32)) <<< ((8 : Int32) &&& 31))) ||| ((u2 &&& (255 : Int32)) <<< ((16 : Int32) &&& 31))) ||| (u3 <<< ((24 : Int32) &&& 31))))) (13 : Int32)) * (5 : Int32)) + (-430675100 : Int32))), .val (.int (4 : Int32)), .val (.int (2 : Int32)), .val (.int ((u4 &&& (255 : Int32)) ||| ((u5 &&& (255 : Int32)) <<< ((8 : Int32) &&& 31))))] [(.int (F_mix ((u4 &&& (255 : Int32)) ||| ((u5 &&& (255 : Int32)) <<< ((8 : Int32) &&& 31))))), (.int (((F_rot ((0 : Int32) ^^^ (F_mix ((((u0 &&& (255 : Int32)) ||| ((u1 &&& (255 : Int32)) <<< ((8 : Int32) &&& 31))) ||| ((u2 &&& (255 : Int32)) <<< ((16 : Int32) &&& 31))) ||| (u3 <<< ((24 : Int32) &&& 31))))) (13 : Int32)) * (5 : Int32)) + (-430675100 : Int32)))])
  refine g_ixor X17 hx hby d_hs6_153 (rfl : 153 + 1 = 154) ?_
  refine g_istoreN X17 hx hby #[.val (.ref a0), .val (.int ((((F_rot ((0 : Int32) ^^^ (F_mix ((((u0 &&& (255 : Int32)) ||| ((u1 &&& (255 : Int32)) <<< ((8 : Int32) &&& 31))) ||| ((u2 &&& (255 : Int32)) <<< ((16 : Int32) &&& 31))) ||| (u3 <<< ((24 : Int32) &&& 31))))) (13 : Int32)) * (5 : Int32)) + (-430675100 : Int32)) ^^^ (F_mix ((u4 &&& (255 : Int32)) ||| ((u5 &&& (255 : Int32)) <<< ((8 : Int32) &&& 31)))))), .val (.int (4 : Int32)), .val (.int (2 : Int32)), .val (.int ((u4 &&& (255 : Int32)) ||| ((u5 &&& (255 : Int32)) <<< ((8 : Int32) &&& 31))))] d_hs6_154 rfl (rfl : 154 + 1 = 155) ?_
  refine g_iloadN X17 hx hby d_hs6_155 rfl (rfl : 155 + 1 = 156) ?_
  refine g_aloadN X17 hx hby d_hs6_156 rfl rfl (rfl : 156 + 1 = 157) ?_
  refine g_alen X17 hx hby hZ eq17 hp0 d_hs6_157 (rfl : 157 + 1 = 158) ?_
  refine g_ixor X17 hx hby d_hs6_158 (rfl : 158 + 1 = 159) ?_
  refine g_istoreN X17 hx hby #[.val (.ref a0), .val (.int (((((F_rot ((0 : Int32) ^^^ (F_mix ((((u0 &&& (255 : Int32)) ||| ((u1 &&& (255 : Int32)) <<< ((8 : Int32) &&& 31))) ||| ((u2 &&& (255 : Int32)) <<< ((16 : Int32) &&& 31))) ||| (u3 <<< ((24 : Int32) &&& 31))))) (13 : Int32)) * (5 : Int32)) + (-430675100 : Int32)) ^^^ (F_mix ((u4 &&& (255 : Int32)) ||| ((u5 &&& (255 : Int32)) <<< ((8 : Int32) &&& 31))))) ^^^ (6 : Int32))), .val (.int (4 : Int32)), .val (.int (2 : Int32)), .val (.int ((u4 &&& (255 : Int32)) ||| ((u5 &&& (255 : Int32)) <<< ((8 : Int32) &&& 31))))] d_hs6_159 rfl (rfl : 159 + 1 = 160) ?_
  refine g_iloadN X17 hx hby d_hs6_160 rfl (rfl : 160 + 1 = 161) ?_
  refine g_iloadN X17 hx hby d_hs6_161 rfl (rfl : 161 + 1 = 162) ?_
  refine g_bipush X17 hx hby (16 : Int32) d_hs6_162 (by decide) (rfl : 162 + 2 = 164) ?_
  refine g_iushr X17 hx hby d_hs6_164 (rfl : 164 + 1 = 165) ?_
  refine g_ixor X17 hx hby d_hs6_165 (rfl : 165 + 1 = 166) ?_
  refine g_istoreN X17 hx hby #[.val (.ref a0), .val (.int ((((((F_rot ((0 : Int32) ^^^ (F_mix ((((u0 &&& (255 : Int32)) ||| ((u1 &&& (255 : Int32)) <<< ((8 : Int32) &&& 31))) ||| ((u2 &&& (255 : Int32)) <<< ((16 : Int32) &&& 31))) ||| (u3 <<< ((24 : Int32) &&& 31))))) (13 : Int32)) * (5 : Int32)) + (-430675100 : Int32)) ^^^ (F_mix ((u4 &&& (255 : Int32)) ||| ((u5 &&& (255 : Int32)) <<< ((8 : Int32) &&& 31))))) ^^^ (6 : Int32)) ^^^ (((((((F_rot ((0 : Int32) ^^^ (F_mix ((((u0 &&& (255 : Int32)) ||| ((u1 &&& (255 : Int32)) <<< ((8 : Int32) &&& 31))) ||| ((u2 &&& (255 : Int32)) <<< ((16 : Int32) &&& 31))) ||| (u3 <<< ((24 : Int32) &&& 31))))) (13 : Int32)) * (5 : Int32)) + (-430675100 : Int32)) ^^^ (F_mix ((u4 &&& (255 : Int32)) ||| ((u5 &&& (255 : Int32)) <<< ((8 : Int32) &&& 31))))) ^^^ (6 : Int32)).toUInt32 >>> ((16 : Int32) &&& 31).toUInt32).toInt32))), .val (.int (4 : Int32)), .val (.int (2 : Int32)), .val (.int ((u4 &&& (255 : Int32)) ||| ((u5 &&& (255 : Int32)) <<< ((8 : Int32) &&& 31))))] d_hs6_166 rfl (rfl : 166 + 1 = 167) ?_
  refine g_iloadN X17 hx hby d_hs6_167 rfl (rfl : 167 + 1 = 168) ?_
  refine g_ldcI X17 hx hby hZ hown (hw _ (List.mem_of_getElem? (i := 6) rfl)) d_hs6_168 (rfl : 168 + 2 = 170) ?_
  refine g_imul X17 hx hby d_hs6_170 (rfl : 170 + 1 = 171) ?_
  refine g_istoreN X17 hx hby #[.val (.ref a0), .val (.int (((((((F_rot ((0 : Int32) ^^^ (F_mix ((((u0 &&& (255 : Int32)) ||| ((u1 &&& (255 : Int32)) <<< ((8 : Int32) &&& 31))) ||| ((u2 &&& (255 : Int32)) <<< ((16 : Int32) &&& 31))) ||| (u3 <<< ((24 : Int32) &&& 31))))) (13 : Int32)) * (5 : Int32)) + (-430675100 : Int32)) ^^^ (F_mix ((u4 &&& (255 : Int32)) ||| ((u5 &&& (255 : Int32)) <<< ((8 : Int32) &&& 31))))) ^^^ (6 : Int32)) ^^^ (((((((F_rot ((0 : Int32) ^^^ (F_mix ((((u0 &&& (255 : Int32)) ||| ((u1 &&& (255 : Int32)) <<< ((8 : Int32) &&& 31))) ||| ((u2 &&& (255 : Int32)) <<< ((16 : Int32) &&& 31))) ||| (u3 <<< ((24 : Int32) &&& 31))))) (13 : Int32)) * (5 : Int32)) + (-430675100 : Int32)) ^^^ (F_mix ((u4 &&& (255 : Int32)) ||| ((u5 &&& (255 : Int32)) <<< ((8 : Int32) &&& 31))))) ^^^ (6 : Int32)).toUInt32 >>> ((16 : Int32) &&& 31).toUInt32).toInt32)) * (-2048144789 : Int32))), .val (.int (4 : Int32)), .val (.int (2 : Int32)), .val (.int ((u4 &&& (255 : Int32)) ||| ((u5 &&& (255 : Int32)) <<< ((8 : Int32) &&& 31))))] d_hs6_171 rfl (rfl : 171 + 1 = 172) ?_
  refine g_iloadN X17 hx hby d_hs6_172 rfl (rfl : 172 + 1 = 173) ?_
  refine g_iloadN X17 hx hby d_hs6_173 rfl (rfl : 173 + 1 = 174) ?_
  refine g_bipush X17 hx hby (13 : Int32) d_hs6_174 (by decide) (rfl : 174 + 2 = 176) ?_
  refine g_iushr X17 hx hby d_hs6_176 (rfl : 176 + 1 = 177) ?_
  refine g_ixor X17 hx hby d_hs6_177 (rfl : 177 + 1 = 178) ?_
  refine g_istoreN X17 hx hby #[.val (.ref a0), .val (.int ((((((((F_rot ((0 : Int32) ^^^ (F_mix ((((u0 &&& (255 : Int32)) ||| ((u1 &&& (255 : Int32)) <<< ((8 : Int32) &&& 31))) ||| ((u2 &&& (255 : Int32)) <<< ((16 : Int32) &&& 31))) ||| (u3 <<< ((24 : Int32) &&& 31))))) (13 : Int32)) * (5 : Int32)) + (-430675100 : Int32)) ^^^ (F_mix ((u4 &&& (255 : Int32)) ||| ((u5 &&& (255 : Int32)) <<< ((8 : Int32) &&& 31))))) ^^^ (6 : Int32)) ^^^ (((((((F_rot ((0 : Int32) ^^^ (F_mix ((((u0 &&& (255 : Int32)) ||| ((u1 &&& (255 : Int32)) <<< ((8 : Int32) &&& 31))) ||| ((u2 &&& (255 : Int32)) <<< ((16 : Int32) &&& 31))) ||| (u3 <<< ((24 : Int32) &&& 31))))) (13 : Int32)) * (5 : Int32)) + (-430675100 : Int32)) ^^^ (F_mix ((u4 &&& (255 : Int32)) ||| ((u5 &&& (255 : Int32)) <<< ((8 : Int32) &&& 31))))) ^^^ (6 : Int32)).toUInt32 >>> ((16 : Int32) &&& 31).toUInt32).toInt32)) * (-2048144789 : Int32)) ^^^ (((((((((F_rot ((0 : Int32) ^^^ (F_mix ((((u0 &&& (255 : Int32)) ||| ((u1 &&& (255 : Int32)) <<< ((8 : Int32) &&& 31))) ||| ((u2 &&& (255 : Int32)) <<< ((16 : Int32) &&& 31))) ||| (u3 <<< ((24 : Int32) &&& 31))))) (13 : Int32)) * (5 : Int32)) + (-430675100 : Int32)) ^^^ (F_mix ((u4 &&& (255 : Int32)) ||| ((u5 &&& (255 : Int32)) <<< ((8 : Int32) &&& 31))))) ^^^ (6 : Int32)) ^^^ (((((((F_rot ((0 : Int32) ^^^ (F_mix ((((u0 &&& (255 : Int32)) ||| ((u1 &&& (255 : Int32)) <<< ((8 : Int32) &&& 31))) ||| ((u2 &&& (255 : Int32)) <<< ((16 : Int32) &&& 31))) ||| (u3 <<< ((24 : Int32) &&& 31))))) (13 : Int32)) * (5 : Int32)) + (-430675100 : Int32)) ^^^ (F_mix ((u4 &&& (255 : Int32)) ||| ((u5 &&& (255 : Int32)) <<< ((8 : Int32) &&& 31))))) ^^^ (6 : Int32)).toUInt32 >>> ((16 : Int32) &&& 31).toUInt32).toInt32)) * (-2048144789 : Int32)).toUInt32 >>> ((13 : Int32) &&& 31).toUInt32).toInt32))), .val (.int (4 : Int32)), .val (.int (2 : Int32)), .val (.int ((u4 &&& (255 : Int32)) ||| ((u5 &&& (255 : Int32)) <<< ((8 : Int32) &&& 31))))] d_hs6_178 rfl (rfl : 178 + 1 = 179) ?_
  refine g_iloadN X17 hx hby d_hs6_179 rfl (rfl : 179 + 1 = 180) ?_
  refine g_ldcI X17 hx hby hZ hown (hw _ (List.mem_of_getElem? (i := 7) rfl)) d_hs6_180 (rfl : 180 + 2 = 182) ?_
  refine g_imul X17 hx hby d_hs6_182 (rfl : 182 + 1 = 183) ?_
  refine g_istoreN X17 hx hby #[.val (.ref a0), .val (.int (((((((((F_rot ((0 : Int32) ^^^ (F_mix ((((u0 &&& (255 : Int32)) ||| ((u1 &&& (255 : Int32)) <<< ((8 : Int32) &&& 31))) ||| ((u2 &&& (255 : Int32)) <<< ((16 : Int32) &&& 31))) ||| (u3 <<< ((24 : Int32) &&& 31))))) (13 : Int32)) * (5 : Int32)) + (-430675100 : Int32)) ^^^ (F_mix ((u4 &&& (255 : Int32)) ||| ((u5 &&& (255 : Int32)) <<< ((8 : Int32) &&& 31))))) ^^^ (6 : Int32)) ^^^ (((((((F_rot ((0 : Int32) ^^^ (F_mix ((((u0 &&& (255 : Int32)) ||| ((u1 &&& (255 : Int32)) <<< ((8 : Int32) &&& 31))) ||| ((u2 &&& (255 : Int32)) <<< ((16 : Int32) &&& 31))) ||| (u3 <<< ((24 : Int32) &&& 31))))) (13 : Int32)) * (5 : Int32)) + (-430675100 : Int32)) ^^^ (F_mix ((u4 &&& (255 : Int32)) ||| ((u5 &&& (255 : Int32)) <<< ((8 : Int32) &&& 31))))) ^^^ (6 : Int32)).toUInt32 >>> ((16 : Int32) &&& 31).toUInt32).toInt32)) * (-2048144789 : Int32)) ^^^ (((((((((F_rot ((0 : Int32) ^^^ (F_mix ((((u0 &&& (255 : Int32)) ||| ((u1 &&& (255 : Int32)) <<< ((8 : Int32) &&& 31))) ||| ((u2 &&& (255 : Int32)) <<< ((16 : Int32) &&& 31))) ||| (u3 <<< ((24 : Int32) &&& 31))))) (13 : Int32)) * (5 : Int32)) + (-430675100 : Int32)) ^^^ (F_mix ((u4 &&& (255 : Int32)) ||| ((u5 &&& (255 : Int32)) <<< ((8 : Int32) &&& 31))))) ^^^ (6 : Int32)) ^^^ (((((((F_rot ((0 : Int32) ^^^ (F_mix ((((u0 &&& (255 : Int32)) ||| ((u1 &&& (255 : Int32)) <<< ((8 : Int32) &&& 31))) ||| ((u2 &&& (255 : Int32)) <<< ((16 : Int32) &&& 31))) ||| (u3 <<< ((24 : Int32) &&& 31))))) (13 : Int32)) * (5 : Int32)) + (-430675100 : Int32)) ^^^ (F_mix ((u4 &&& (255 : Int32)) ||| ((u5 &&& (255 : Int32)) <<< ((8 : Int32) &&& 31))))) ^^^ (6 : Int32)).toUInt32 >>> ((16 : Int32) &&& 31).toUInt32).toInt32)) * (-2048144789 : Int32)).toUInt32 >>> ((13 : Int32) &&& 31).toUInt32).toInt32)) * (-1028477387 : Int32))), .val (.int (4 : Int32)), .val (.int (2 : Int32)), .val (.int ((u4 &&& (255 : Int32)) ||| ((u5 &&& (255 : Int32)) <<< ((8 : Int32) &&& 31))))] d_hs6_183 rfl (rfl : 183 + 1 = 184) ?_
  refine g_iloadN X17 hx hby d_hs6_184 rfl (rfl : 184 + 1 = 185) ?_
  refine g_iloadN X17 hx hby d_hs6_185 rfl (rfl : 185 + 1 = 186) ?_
  refine g_bipush X17 hx hby (16 : Int32) d_hs6_186 (by decide) (rfl : 186 + 2 = 188) ?_
  refine g_iushr X17 hx hby d_hs6_188 (rfl : 188 + 1 = 189) ?_
  refine g_ixor X17 hx hby d_hs6_189 (rfl : 189 + 1 = 190) ?_
  refine own_retI X17 hx hby hlk hrt d_hs6_190 (by decide) (by decide) ?_
  show Q_hs6 Z a0 kk u0 u1 u2 u3 u4 u5 h0 n0 _ T17.heap _
  exact ⟨rfl, N17, eq17⟩
theorem d_hs7_0 : decode prog_62_method_2_code 0 = .ok (.iconst 0, 1) := by decide +kernel
theorem d_hs7_1 : decode prog_62_method_2_code 1 = .ok (.istore_n 1, 1) := by decide +kernel
theorem d_hs7_2 : decode prog_62_method_2_code 2 = .ok (.aload_n 0, 1) := by decide +kernel
theorem d_hs7_3 : decode prog_62_method_2_code 3 = .ok (.arraylength, 1) := by decide +kernel
theorem d_hs7_4 : decode prog_62_method_2_code 4 = .ok (.bipush (-4), 2) := by decide +kernel
theorem d_hs7_6 : decode prog_62_method_2_code 6 = .ok (.iand, 1) := by decide +kernel
theorem d_hs7_7 : decode prog_62_method_2_code 7 = .ok (.istore_n 2, 1) := by decide +kernel
theorem d_hs7_8 : decode prog_62_method_2_code 8 = .ok (.iconst 0, 1) := by decide +kernel
theorem d_hs7_9 : decode prog_62_method_2_code 9 = .ok (.istore_n 3, 1) := by decide +kernel
theorem d_hs7_10 : decode prog_62_method_2_code 10 = .ok (.iload_n 3, 1) := by decide +kernel
theorem d_hs7_11 : decode prog_62_method_2_code 11 = .ok (.iload_n 2, 1) := by decide +kernel
theorem d_hs7_12 : decode prog_62_method_2_code 12 = .ok (.if_icmp .ge 73, 3) := by decide +kernel
theorem d_hs7_15 : decode prog_62_method_2_code 15 = .ok (.aload_n 0, 1) := by decide +kernel
theorem d_hs7_16 : decode prog_62_method_2_code 16 = .ok (.iload_n 3, 1) := by decide +kernel
theorem d_hs7_17 : decode prog_62_method_2_code 17 = .ok (.baload, 1) := by decide +kernel
theorem d_hs7_18 : decode prog_62_method_2_code 18 = .ok (.sipush 255, 3) := by decide +kernel
theorem d_hs7_21 : decode prog_62_method_2_code 21 = .ok (.iand, 1) := by decide +kernel
theorem d_hs7_22 : decode prog_62_method_2_code 22 = .ok (.aload_n 0, 1) := by decide +kernel
theorem d_hs7_23 : decode prog_62_method_2_code 23 = .ok (.iload_n 3, 1) := by decide +kernel
theorem d_hs7_24 : decode prog_62_method_2_code 24 = .ok (.iconst 1, 1) := by decide +kernel
theorem d_hs7_25 : decode prog_62_method_2_code 25 = .ok (.iadd, 1) := by decide +kernel
theorem d_hs7_26 : decode prog_62_method_2_code 26 = .ok (.baload, 1) := by decide +kernel
theorem d_hs7_27 : decode prog_62_method_2_code 27 = .ok (.sipush 255, 3) := by decide +kernel
theorem d_hs7_30 : decode prog_62_method_2_code 30 = .ok (.iand, 1) := by decide +kernel
theorem d_hs7_31 : decode prog_62_method_2_code 31 = .ok (.bipush 8, 2) := by decide +kernel
theorem d_hs7_33 : decode prog_62_method_2_code 33 = .ok (.ishl, 1) := by decide +kernel
theorem d_hs7_34 : decode prog_62_method_2_code 34 = .ok (.ior, 1) := by decide +kernel
theorem d_hs7_35 : decode prog_62_method_2_code 35 = .ok (.aload_n 0, 1) := by decide +kernel
theorem d_hs7_36 : decode prog_62_method_2_code 36 = .ok (.iload_n 3, 1) := by decide +kernel
theorem d_hs7_37 : decode prog_62_method_2_code 37 = .ok (.iconst 2, 1) := by decide +kernel
theorem d_hs7_38 : decode prog_62_method_2_code 38 = .ok (.iadd, 1) := by decide +kernel
theorem d_hs7_39 : decode prog_62_method_2_code 39 = .ok (.baload, 1) := by decide +kernel
theorem d_hs7_40 : decode prog_62_method_2_code 40 = .ok (.sipush 255, 3) := by decide +kernel
theorem d_hs7_43 : decode prog_62_method_2_code 43 = .ok (.iand, 1) := by decide +kernel
theorem d_hs7_44 : decode prog_62_method_2_code 44 = .ok (.bipush 16, 2) := by decide +kernel
theorem d_hs7_46 : decode prog_62_method_2_code 46 = .ok (.ishl, 1) := by decide +kernel
theorem d_hs7_47 : decode prog_62_method_2_code 47 = .ok (.ior, 1) := by decide +kernel
theorem d_hs7_48 : decode prog_62_method_2_code 48 = .ok (.aload_n 0, 1) := by decide +kernel
theorem d_hs7_49 : decode prog_62_method_2_code 49 = .ok (.iload_n 3, 1) := by decide +kernel
theorem d_hs7_50 : decode prog_62_method_2_code 50 = .ok (.iconst 3, 1) := by decide +kernel
theorem d_hs7_51 : decode prog_62_method_2_code 51 = .ok (.iadd, 1) := by decide +kernel
theorem d_hs7_52 : decode prog_62_method_2_code 52 = .ok (.baload, 1) := by decide +kernel
theorem d_hs7_53 : decode prog_62_method_2_code 53 = .ok (.bipush 24, 2) := by decide +kernel
theorem d_hs7_55 : decode prog_62_method_2_code 55 = .ok (.ishl, 1) := by decide +kernel
theorem d_hs7_56 : decode prog_62_method_2_code 56 = .ok (.ior, 1) := by decide +kernel
theorem d_hs7_57 : decode prog_62_method_2_code 57 = .ok (.istore 4, 2) := by decide +kernel
theorem d_hs7_59 : decode prog_62_method_2_code 59 = .ok (.iload_n 1, 1) := by decide +kernel
theorem d_hs7_60 : decode prog_62_method_2_code 60 = .ok (.iload 4, 2) := by decide +kernel
theorem d_hs7_62 : decode prog_62_method_2_code 62 = .ok (.invokestatic 7, 3) := by decide +kernel
theorem d_hs7_65 : decode prog_62_method_2_code 65 = .ok (.ixor, 1) := by decide +kernel
theorem d_hs7_66 : decode prog_62_method_2_code 66 = .ok (.istore_n 1, 1) := by decide +kernel
theorem d_hs7_67 : decode prog_62_method_2_code 67 = .ok (.iload_n 1, 1) := by decide +kernel
theorem d_hs7_68 : decode prog_62_method_2_code 68 = .ok (.bipush 13, 2) := by decide +kernel
theorem d_hs7_70 : decode prog_62_method_2_code 70 = .ok (.invokestatic 13, 3) := by decide +kernel
theorem d_hs7_73 : decode prog_62_method_2_code 73 = .ok (.iconst 5, 1) := by decide +kernel
theorem d_hs7_74 : decode prog_62_method_2_code 74 = .ok (.imul, 1) := by decide +kernel
theorem d_hs7_75 : decode prog_62_method_2_code 75 = .ok (.ldc 19, 2) := by decide +kernel
theorem d_hs7_77 : decode prog_62_method_2_code 77 = .ok (.iadd, 1) := by decide +kernel
theorem d_hs7_78 : decode prog_62_method_2_code 78 = .ok (.istore_n 1, 1) := by decide +kernel
theorem d_hs7_79 : decode prog_62_method_2_code 79 = .ok (.iinc 3 4, 3) := by decide +kernel
theorem d_hs7_82 : decode prog_62_method_2_code 82 = .ok (.goto (-72), 3) := by decide +kernel
theorem d_hs7_85 : decode prog_62_method_2_code 85 = .ok (.aload_n 0, 1) := by decide +kernel
theorem d_hs7_86 : decode prog_62_method_2_code 86 = .ok (.arraylength, 1) := by decide +kernel
theorem d_hs7_87 : decode prog_62_method_2_code 87 = .ok (.iconst 3, 1) := by decide +kernel
theorem d_hs7_88 : decode prog_62_method_2_code 88 = .ok (.iand, 1) := by decide +kernel
theorem d_hs7_89 : decode prog_62_method_2_code 89 = .ok (.istore_n 3, 1) := by decide +kernel
theorem d_hs7_90 : decode prog_62_method_2_code 90 = .ok (.iload_n 3, 1) := by decide +kernel
theorem d_hs7_91 : decode prog_62_method_2_code 91 = .ok (.ifCond .le 64, 3) := by decide +kernel
theorem d_hs7_94 : decode prog_62_method_2_code 94 = .ok (.aload_n 0, 1) := by decide +kernel
theorem d_hs7_95 : decode prog_62_method_2_code 95 = .ok (.iload_n 2, 1) := by decide +kernel
theorem d_hs7_96 : decode prog_62_method_2_code 96 = .ok (.baload, 1) := by decide +kernel
theorem d_hs7_97 : decode prog_62_method_2_code 97 = .ok (.sipush 255, 3) := by decide +kernel
theorem d_hs7_100 : decode prog_62_method_2_code 100 = .ok (.iand, 1) := by decide +kernel
theorem d_hs7_101 : decode prog_62_method_2_code 101 = .ok (.istore 4, 2) := by decide +kernel
theorem d_hs7_103 : decode prog_62_method_2_code 103 = .ok (.iload_n 3, 1) := by decide +kernel
theorem d_hs7_104 : decode prog_62_method_2_code 104 = .ok (.iconst 1, 1) := by decide +kernel
theorem d_hs7_105 : decode prog_62_method_2_code 105 = .ok (.if_icmp .le 20, 3) := by decide +kernel
theorem d_hs7_108 : decode prog_62_method_2_code 108 = .ok (.iload 4, 2) := by decide +kernel
theorem d_hs7_110 : decode prog_62_method_2_code 110 = .ok (.aload_n 0, 1) := by decide +kernel
theorem d_hs7_111 : decode prog_62_method_2_code 111 = .ok (.iload_n 2, 1) := by decide +kernel
theorem d_hs7_112 : decode prog_62_method_2_code 112 = .ok (.iconst 1, 1) := by decide +kernel
theorem d_hs7_113 : decode prog_62_method_2_code 113 = .ok (.iadd, 1) := by decide +kernel
theorem d_hs7_114 : decode prog_62_method_2_code 114 = .ok (.baload, 1) := by decide +kernel
theorem d_hs7_115 : decode prog_62_method_2_code 115 = .ok (.sipush 255, 3) := by decide +kernel
theorem d_hs7_118 : decode prog_62_method_2_code 118 = .ok (.iand, 1) := by decide +kernel
theorem d_hs7_119 : decode prog_62_method_2_code 119 = .ok (.bipush 8, 2) := by decide +kernel
theorem d_hs7_121 : decode prog_62_method_2_code 121 = .ok (.ishl, 1) := by decide +kernel
theorem d_hs7_122 : decode prog_62_method_2_code 122 = .ok (.ior, 1) := by decide +kernel
theorem d_hs7_123 : decode prog_62_method_2_code 123 = .ok (.istore 4, 2) := by decide +kernel
theorem d_hs7_125 : decode prog_62_method_2_code 125 = .ok (.iload_n 3, 1) := by decide +kernel
theorem d_hs7_126 : decode prog_62_method_2_code 126 = .ok (.iconst 2, 1) := by decide +kernel
theorem d_hs7_127 : decode prog_62_method_2_code 127 = .ok (.if_icmp .le 20, 3) := by decide +kernel
theorem d_hs7_130 : decode prog_62_method_2_code 130 = .ok (.iload 4, 2) := by decide +kernel
theorem d_hs7_132 : decode prog_62_method_2_code 132 = .ok (.aload_n 0, 1) := by decide +kernel
theorem d_hs7_133 : decode prog_62_method_2_code 133 = .ok (.iload_n 2, 1) := by decide +kernel
theorem d_hs7_134 : decode prog_62_method_2_code 134 = .ok (.iconst 2, 1) := by decide +kernel
theorem d_hs7_135 : decode prog_62_method_2_code 135 = .ok (.iadd, 1) := by decide +kernel
theorem d_hs7_136 : decode prog_62_method_2_code 136 = .ok (.baload, 1) := by decide +kernel
theorem d_hs7_137 : decode prog_62_method_2_code 137 = .ok (.sipush 255, 3) := by decide +kernel
theorem d_hs7_140 : decode prog_62_method_2_code 140 = .ok (.iand, 1) := by decide +kernel
theorem d_hs7_141 : decode prog_62_method_2_code 141 = .ok (.bipush 16, 2) := by decide +kernel
theorem d_hs7_143 : decode prog_62_method_2_code 143 = .ok (.ishl, 1) := by decide +kernel
theorem d_hs7_144 : decode prog_62_method_2_code 144 = .ok (.ior, 1) := by decide +kernel
theorem d_hs7_145 : decode prog_62_method_2_code 145 = .ok (.istore 4, 2) := by decide +kernel
theorem d_hs7_147 : decode prog_62_method_2_code 147 = .ok (.iload_n 1, 1) := by decide +kernel
theorem d_hs7_148 : decode prog_62_method_2_code 148 = .ok (.iload 4, 2) := by decide +kernel
theorem d_hs7_150 : decode prog_62_method_2_code 150 = .ok (.invokestatic 7, 3) := by decide +kernel
theorem d_hs7_153 : decode prog_62_method_2_code 153 = .ok (.ixor, 1) := by decide +kernel
theorem d_hs7_154 : decode prog_62_method_2_code 154 = .ok (.istore_n 1, 1) := by decide +kernel
theorem d_hs7_155 : decode prog_62_method_2_code 155 = .ok (.iload_n 1, 1) := by decide +kernel
theorem d_hs7_156 : decode prog_62_method_2_code 156 = .ok (.aload_n 0, 1) := by decide +kernel
theorem d_hs7_157 : decode prog_62_method_2_code 157 = .ok (.arraylength, 1) := by decide +kernel
theorem d_hs7_158 : decode prog_62_method_2_code 158 = .ok (.ixor, 1) := by decide +kernel
theorem d_hs7_159 : decode prog_62_method_2_code 159 = .ok (.istore_n 1, 1) := by decide +kernel
theorem d_hs7_160 : decode prog_62_method_2_code 160 = .ok (.iload_n 1, 1) := by decide +kernel
theorem d_hs7_161 : decode prog_62_method_2_code 161 = .ok (.iload_n 1, 1) := by decide +kernel
theorem d_hs7_162 : decode prog_62_method_2_code 162 = .ok (.bipush 16, 2) := by decide +kernel
theorem d_hs7_164 : decode prog_62_method_2_code 164 = .ok (.iushr, 1) := by decide +kernel
theorem d_hs7_165 : decode prog_62_method_2_code 165 = .ok (.ixor, 1) := by decide +kernel
theorem d_hs7_166 : decode prog_62_method_2_code 166 = .ok (.istore_n 1, 1) := by decide +kernel
theorem d_hs7_167 : decode prog_62_method_2_code 167 = .ok (.iload_n 1, 1) := by decide +kernel
theorem d_hs7_168 : decode prog_62_method_2_code 168 = .ok (.ldc 20, 2) := by decide +kernel
theorem d_hs7_170 : decode prog_62_method_2_code 170 = .ok (.imul, 1) := by decide +kernel
theorem d_hs7_171 : decode prog_62_method_2_code 171 = .ok (.istore_n 1, 1) := by decide +kernel
theorem d_hs7_172 : decode prog_62_method_2_code 172 = .ok (.iload_n 1, 1) := by decide +kernel
theorem d_hs7_173 : decode prog_62_method_2_code 173 = .ok (.iload_n 1, 1) := by decide +kernel
theorem d_hs7_174 : decode prog_62_method_2_code 174 = .ok (.bipush 13, 2) := by decide +kernel
theorem d_hs7_176 : decode prog_62_method_2_code 176 = .ok (.iushr, 1) := by decide +kernel
theorem d_hs7_177 : decode prog_62_method_2_code 177 = .ok (.ixor, 1) := by decide +kernel
theorem d_hs7_178 : decode prog_62_method_2_code 178 = .ok (.istore_n 1, 1) := by decide +kernel
theorem d_hs7_179 : decode prog_62_method_2_code 179 = .ok (.iload_n 1, 1) := by decide +kernel
theorem d_hs7_180 : decode prog_62_method_2_code 180 = .ok (.ldc 21, 2) := by decide +kernel
theorem d_hs7_182 : decode prog_62_method_2_code 182 = .ok (.imul, 1) := by decide +kernel
theorem d_hs7_183 : decode prog_62_method_2_code 183 = .ok (.istore_n 1, 1) := by decide +kernel
theorem d_hs7_184 : decode prog_62_method_2_code 184 = .ok (.iload_n 1, 1) := by decide +kernel
theorem d_hs7_185 : decode prog_62_method_2_code 185 = .ok (.iload_n 1, 1) := by decide +kernel
theorem d_hs7_186 : decode prog_62_method_2_code 186 = .ok (.bipush 16, 2) := by decide +kernel
theorem d_hs7_188 : decode prog_62_method_2_code 188 = .ok (.iushr, 1) := by decide +kernel
theorem d_hs7_189 : decode prog_62_method_2_code 189 = .ok (.ixor, 1) := by decide +kernel
theorem d_hs7_190 : decode prog_62_method_2_code 190 = .ok (.ireturn, 1) := by decide +kernel
theorem ef_hs7 (m : MethodId) (a0 : Addr) : entryFrame m #[(.ref a0)] 5 = mkF m 0 #[.val (.ref a0), .unset, .unset, .unset, .unset] [] := by first | (simp [entryFrame, mkF, argsToLocals, Value.category]; done) | rfl
def F_hs7 (u0 : Int32) (u1 : Int32) (u2 : Int32) (u3 : Int32) (u4 : Int32) (u5 : Int32) (u6 : Int32) : Int32 := ((((((((((F_rot ((0 : Int32) ^^^ (F_mix ((((u0 &&& (255 : Int32)) ||| ((u1 &&& (255 : Int32)) <<< ((8 : Int32) &&& 31))) ||| ((u2 &&& (255 : Int32)) <<< ((16 : Int32) &&& 31))) ||| (u3 <<< ((24 : Int32) &&& 31))))) (13 : Int32)) * (5 : Int32)) + (-430675100 : Int32)) ^^^ (F_mix (((u4 &&& (255 : Int32)) ||| ((u5 &&& (255 : Int32)) <<< ((8 : Int32) &&& 31))) ||| ((u6 &&& (255 : Int32)) <<< ((16 : Int32) &&& 31))))) ^^^ (7 : Int32)) ^^^ (((((((F_rot ((0 : Int32) ^^^ (F_mix ((((u0 &&& (255 : Int32)) ||| ((u1 &&& (255 : Int32)) <<< ((8 : Int32) &&& 31))) ||| ((u2 &&& (255 : Int32)) <<< ((16 : Int32) &&& 31))) ||| (u3 <<< ((24 : Int32) &&& 31))))) (13 : Int32)) * (5 : Int32)) + (-430675100 : Int32)) ^^^ (F_mix (((u4 &&& (255 : Int32)) ||| ((u5 &&& (255 : Int32)) <<< ((8 : Int32) &&& 31))) ||| ((u6 &&& (255 : Int32)) <<< ((16 : Int32) &&& 31))))) ^^^ (7 : Int32)).toUInt32 >>> ((16 : Int32) &&& 31).toUInt32).toInt32)) * (-2048144789 : Int32)) ^^^ (((((((((F_rot ((0 : Int32) ^^^ (F_mix ((((u0 &&& (255 : Int32)) ||| ((u1 &&& (255 : Int32)) <<< ((8 : Int32) &&& 31))) ||| ((u2 &&& (255 : Int32)) <<< ((16 : Int32) &&& 31))) ||| (u3 <<< ((24 : Int32) &&& 31))))) (13 : Int32)) * (5 : Int32)) + (-430675100 : Int32)) ^^^ (F_mix (((u4 &&& (255 : Int32)) ||| ((u5 &&& (255 : Int32)) <<< ((8 : Int32) &&& 31))) ||| ((u6 &&& (255 : Int32)) <<< ((16 : Int32) &&& 31))))) ^^^ (7 : Int32)) ^^^ (((((((F_rot ((0 : Int32) ^^^ (F_mix ((((u0 &&& (255 : Int32)) ||| ((u1 &&& (255 : Int32)) <<< ((8 : Int32) &&& 31))) ||| ((u2 &&& (255 : Int32)) <<< ((16 : Int32) &&& 31))) ||| (u3 <<< ((24 : Int32) &&& 31))))) (13 : Int32)) * (5 : Int32)) + (-430675100 : Int32)) ^^^ (F_mix (((u4 &&& (255 : Int32)) ||| ((u5 &&& (255 : Int32)) <<< ((8 : Int32) &&& 31))) ||| ((u6 &&& (255 : Int32)) <<< ((16 : Int32) &&& 31))))) ^^^ (7 : Int32)).toUInt32 >>> ((16 : Int32) &&& 31).toUInt32).toInt32)) * (-2048144789 : Int32)).toUInt32 >>> ((13 : Int32) &&& 31).toUInt32).toInt32)) * (-1028477387 : Int32)) ^^^ (((((((((((F_rot ((0 : Int32) ^^^ (F_mix ((((u0 &&& (255 : Int32)) ||| ((u1 &&& (255 : Int32)) <<< ((8 : Int32) &&& 31))) ||| ((u2 &&& (255 : Int32)) <<< ((16 : Int32) &&& 31))) ||| (u3 <<< ((24 : Int32) &&& 31))))) (13 : Int32)) * (5 : Int32)) + (-430675100 : Int32)) ^^^ (F_mix (((u4 &&& (255 : Int32)) ||| ((u5 &&& (255 : Int32)) <<< ((8 : Int32) &&& 31))) ||| ((u6 &&& (255 : Int32)) <<< ((16 : Int32) &&& 31))))) ^^^ (7 : Int32)) ^^^ (((((((F_rot ((0 : Int32) ^^^ (F_mix ((((u0 &&& (255 : Int32)) ||| ((u1 &&& (255 : Int32)) <<< ((8 : Int32) &&& 31))) ||| ((u2 &&& (255 : Int32)) <<< ((16 : Int32) &&& 31))) ||| (u3 <<< ((24 : Int32) &&& 31))))) (13 : Int32)) * (5 : Int32)) + (-430675100 : Int32)) ^^^ (F_mix (((u4 &&& (255 : Int32)) ||| ((u5 &&& (255 : Int32)) <<< ((8 : Int32) &&& 31))) ||| ((u6 &&& (255 : Int32)) <<< ((16 : Int32) &&& 31))))) ^^^ (7 : Int32)).toUInt32 >>> ((16 : Int32) &&& 31).toUInt32).toInt32)) * (-2048144789 : Int32)) ^^^ (((((((((F_rot ((0 : Int32) ^^^ (F_mix ((((u0 &&& (255 : Int32)) ||| ((u1 &&& (255 : Int32)) <<< ((8 : Int32) &&& 31))) ||| ((u2 &&& (255 : Int32)) <<< ((16 : Int32) &&& 31))) ||| (u3 <<< ((24 : Int32) &&& 31))))) (13 : Int32)) * (5 : Int32)) + (-430675100 : Int32)) ^^^ (F_mix (((u4 &&& (255 : Int32)) ||| ((u5 &&& (255 : Int32)) <<< ((8 : Int32) &&& 31))) ||| ((u6 &&& (255 : Int32)) <<< ((16 : Int32) &&& 31))))) ^^^ (7 : Int32)) ^^^ (((((((F_rot ((0 : Int32) ^^^ (F_mix ((((u0 &&& (255 : Int32)) ||| ((u1 &&& (255 : Int32)) <<< ((8 : Int32) &&& 31))) ||| ((u2 &&& (255 : Int32)) <<< ((16 : Int32) &&& 31))) ||| (u3 <<< ((24 : Int32) &&& 31))))) (13 : Int32)) * (5 : Int32)) + (-430675100 : Int32)) ^^^ (F_mix (((u4 &&& (255 : Int32)) ||| ((u5 &&& (255 : Int32)) <<< ((8 : Int32) &&& 31))) ||| ((u6 &&& (255 : Int32)) <<< ((16 : Int32) &&& 31))))) ^^^ (7 : Int32)).toUInt32 >>> ((16 : Int32) &&& 31).toUInt32).toInt32)) * (-2048144789 : Int32)).toUInt32 >>> ((13 : Int32) &&& 31).toUInt32).toInt32)) * (-1028477387 : Int32)).toUInt32 >>> ((16 : Int32) &&& 31).toUInt32).toInt32))
def Q_hs7 (Z : State) (a0 : Addr) (kk : ClassId) (u0 : Int32) (u1 : Int32) (u2 : Int32) (u3 : Int32) (u4 : Int32) (u5 : Int32) (u6 : Int32) (h0 : Heap) (n0 : Nat) (v : Option Value) (h : Heap) (L : List Loc) : Prop := v = some (.int (F_hs7 u0 u1 u2 u3 u4 u5 u6)) ∧ Fr n0 L ∧ h = h0
set_option maxRecDepth 65536 in
set_option maxHeartbeats 40000000 in
theorem rm_hs7 (l : Launch) (Z : State) (aT : Array Value) (hw : ∀ d ∈ tables_1, d.before aT Z = true) (ws : List Jvm.Cond) (a0 : Addr) (kk : ClassId) (u0 : Int32) (u1 : Int32) (u2 : Int32) (u3 : Int32) (u4 : Int32) (u5 : Int32) (u6 : Int32) (h0 : Heap) (n0 : Nat) (Z0 : n0 ≤ h0.size) (hp0 : Arv Z h0 a0 kk .byte (7 : Int32) [(.int u0), (.int u1), (.int u2), (.int u3), (.int u4), (.int u5), (.int u6)] (.int (0 : Int32))) :
    MetFree l (⟨"com/example/farshard/farshard/store/Murmur3", "hash32", "([B)I"⟩ : MethodName) (head1 (Jvm.Cond.code (⟨"com/example/farshard/farshard/store/Murmur3", "hash32", "([B)I"⟩ : MethodName) prog_62_method_2_code 5 (some .int) :: ws) ({ frames := 2, cells := 0, slots := 0, locals := 26 } : Room)) (fun a U => a = #[(.ref a0)] ∧ Z.Warmed39 U.vm ∧ U.heap = h0) (fun _ _ _ _ _ => True) (fun _ U o U' => ∃ v L, o = .returned v ∧ Q_hs7 Z a0 kk u0 u1 u2 u3 u4 u5 u6 h0 n0 v U'.heap L ∧ FrameEnd U o U' L ({ frames := 2, cells := 0, slots := 0, locals := 26 } : Room).cells ({ frames := 2, cells := 0, slots := 0, locals := 26 } : Room).slots) := by
  refine MetFree.of_bodySF (plainFor_of_name pn1) hisR ?_
  intro p e s m args below meth c s₁ Bd hml0 hP hK
  obtain ⟨rfl, hZ, hh⟩ := hP
  have hx := Bd.exec
  have hby := Bd.bytes
  have hml : c.maxLocals = 5 := hml0
  have hown : s.vm.findClass "com/example/farshard/farshard/store/Murmur3" = some m.cls := findClass_of_methodNamed Bd.named
  have hnm := (name_of_methodNamed Bd.named Bd.method).1
  have hlk := Bd.notSynchronized
  have hrt := Bd.returns
  have X0 : Stand p l e ({ frames := 2, cells := 0, slots := 0, locals := 26 } : Room) s m #[(.ref a0)] below meth c s₁ [] 0 0 := Stand.of_body Bd
  have e0 : s₁.heap = h0 := by rw [← hh, Bd.state]; rfl
  have N0 := Fr.nil n0
  refine own_cast (P := own_End s (Q_hs7 Z a0 kk u0 u1 u2 u3 u4 u5 u6 h0 n0) ({ frames := 2, cells := 0, slots := 0, locals := 26 } : Room).cells ({ frames := 2, cells := 0, slots := 0, locals := 26 } : Room).slots) (ef_hs7 m a0) ?_
  refine g_iconst X0 hx hby (0 : Int32) d_hs7_0 (by decide) (rfl : 0 + 1 = 1) ?_
  refine g_istoreN X0 hx hby #[.val (.ref a0), .val (.int (0 : Int32)), .unset, .unset, .unset] d_hs7_1 rfl (rfl : 1 + 1 = 2) ?_
  refine g_aloadN X0 hx hby d_hs7_2 rfl rfl (rfl : 2 + 1 = 3) ?_
  refine g_alen X0 hx hby hZ e0 hp0 d_hs7_3 (rfl : 3 + 1 = 4) ?_
  refine g_bipush X0 hx hby (-4 : Int32) d_hs7_4 (by decide) (rfl : 4 + 2 = 6) ?_
  refine g_iand X0 hx hby d_hs7_6 (rfl : 6 + 1 = 7) ?_
  rw [(by decide : ((7 : Int32) &&& (-4 : Int32)) = (4 : Int32))]
  refine g_istoreN X0 hx hby #[.val (.ref a0), .val (.int (0 : Int32)), .val (.int (4 : Int32)), .unset, .unset] d_hs7_7 rfl (rfl : 7 + 1 = 8) ?_
  refine g_iconst X0 hx hby (0 : Int32) d_hs7_8 (by decide) (rfl : 8 + 1 = 9) ?_
  refine g_istoreN X0 hx hby #[.val (.ref a0), .val (.int (0 : Int32)), .val (.int (4 : Int32)), .val (.int (0 : Int32)), .unset] d_hs7_9 rfl (rfl : 9 + 1 = 10) ?_
  refine g_iloadN X0 hx hby d_hs7_10 rfl (rfl : 10 + 1 = 11) ?_
  refine g_iloadN X0 hx hby d_hs7_11 rfl (rfl : 11 + 1 = 12) ?_
  refine g_icF X0 hx hby d_hs7_12 (tlt (by decide : (0 : Int32) < (4 : Int32))).2.1 (rfl : 12 + 3 = 15) ?_
  refine g_aloadN X0 hx hby d_hs7_15 rfl rfl (rfl : 15 + 1 = 16) ?_
  refine g_iloadN X0 hx hby d_hs7_16 rfl (rfl : 16 + 1 = 17) ?_
  refine g_baload X0 hx hby hZ e0 (v := (.int u0)) hp0 ⟨by decide, by decide⟩ rfl d_hs7_17 (rfl : 17 + 1 = 18) ?_
  refine g_sipush X0 hx hby (255 : Int32) d_hs7_18 (by decide) (rfl : 18 + 3 = 21) ?_
  refine g_iand X0 hx hby d_hs7_21 (rfl : 21 + 1 = 22) ?_
  refine g_aloadN X0 hx hby d_hs7_22 rfl rfl (rfl : 22 + 1 = 23) ?_
  refine g_iloadN X0 hx hby d_hs7_23 rfl (rfl : 23 + 1 = 24) ?_
  refine g_iconst X0 hx hby (1 : Int32) d_hs7_24 (by decide) (rfl : 24 + 1 = 25) ?_
  refine g_iadd X0 hx hby d_hs7_25 (rfl : 25 + 1 = 26) ?_
  rw [(by decide : ((0 : Int32) + (1 : Int32)) = (1 : Int32))]
  refine g_baload X0 hx hby hZ e0 (v := (.int u1)) hp0 ⟨by decide, by decide⟩ rfl d_hs7_26 (rfl : 26 + 1 = 27) ?_
  refine g_sipush X0 hx hby (255 : Int32) d_hs7_27 (by decide) (rfl : 27 + 3 = 30) ?_
  refine g_iand X0 hx hby d_hs7_30 (rfl : 30 + 1 = 31) ?_
  refine g_bipush X0 hx hby (8 : Int32) d_hs7_31 (by decide) (rfl : 31 + 2 = 33) ?_
  refine g_ishl X0 hx hby d_hs7_33 (rfl : 33 + 1 = 34) ?_
  refine g_ior X0 hx hby d_hs7_34 (rfl : 34 + 1 = 35) ?_
  refine g_aloadN X0 hx hby d_hs7_35 rfl rfl (rfl : 35 + 1 = 36) ?_
  refine g_iloadN X0 hx hby d_hs7_36 rfl (rfl : 36 + 1 = 37) ?_
  refine g_iconst X0 hx hby (2 : Int32) d_hs7_37 (by decide) (rfl : 37 + 1 = 38) ?_
  refine g_iadd X0 hx hby d_hs7_38 (rfl : 38 + 1 = 39) ?_
  rw [(by decide : ((0 : Int32) + (2 : Int32)) = (2 : Int32))]
  refine g_baload X0 hx hby hZ e0 (v := (.int u2)) hp0 ⟨by decide, by decide⟩ rfl d_hs7_39 (rfl : 39 + 1 = 40) ?_
  refine g_sipush X0 hx hby (255 : Int32) d_hs7_40 (by decide) (rfl : 40 + 3 = 43) ?_
  refine g_iand X0 hx hby d_hs7_43 (rfl : 43 + 1 = 44) ?_
  refine g_bipush X0 hx hby (16 : Int32) d_hs7_44 (by decide) (rfl : 44 + 2 = 46) ?_
  refine g_ishl X0 hx hby d_hs7_46 (rfl : 46 + 1 = 47) ?_
  refine g_ior X0 hx hby d_hs7_47 (rfl : 47 + 1 = 48) ?_
  refine g_aloadN X0 hx hby d_hs7_48 rfl rfl (rfl : 48 + 1 = 49) ?_
  refine g_iloadN X0 hx hby d_hs7_49 rfl (rfl : 49 + 1 = 50) ?_
  refine g_iconst X0 hx hby (3 : Int32) d_hs7_50 (by decide) (rfl : 50 + 1 = 51) ?_
  refine g_iadd X0 hx hby d_hs7_51 (rfl : 51 + 1 = 52) ?_
  rw [(by decide : ((0 : Int32) + (3 : Int32)) = (3 : Int32))]
  refine g_baload X0 hx hby hZ e0 (v := (.int u3)) hp0 ⟨by decide, by decide⟩ rfl d_hs7_52 (rfl : 52 + 1 = 53) ?_
  refine g_bipush X0 hx hby (24 : Int32) d_hs7_53 (by decide) (rfl : 53 + 2 = 55) ?_
  refine g_ishl X0 hx hby d_hs7_55 (rfl : 55 + 1 = 56) ?_
  refine g_ior X0 hx hby d_hs7_56 (rfl : 56 + 1 = 57) ?_
  refine g_istore X0 hx hby #[.val (.ref a0), .val (.int (0 : Int32)), .val (.int (4 : Int32)), .val (.int (0 : Int32)), .val (.int ((((u0 &&& (255 : Int32)) ||| ((u1 &&& (255 : Int32)) <<< ((8 : Int32) &&& 31))) ||| ((u2 &&& (255 : Int32)) <<< ((16 : Int32) &&& 31))) ||| (u3 <<< ((24 : Int32) &&& 31))))] d_hs7_57 rfl (rfl : 57 + 2 = 59) ?_
  refine g_iloadN X0 hx hby d_hs7_59 rfl (rfl : 59 + 1 = 60) ?_
  refine g_iload X0 hx hby d_hs7_60 rfl (rfl : 60 + 2 = 62) ?_
  obtain ⟨_, _, ⟨T18, L18, k18, n18⟩, -, X18, ⟨Lc18, hQ18, l18, y18, z18⟩, st18⟩ := Jvm.LawKit.callS X0 hx (y := (⟨"com/example/farshard/farshard/store/Murmur3", "mixBlock", "(I)I"⟩ : MethodName)) hown (mvT hZ (hw _ (List.mem_of_getElem? (i := 17) rfl))) (mvT hZ (hw _ (List.mem_of_getElem? (i := 18) rfl))) (mvT hZ (hw _ (List.mem_of_getElem? (i := 4) rfl))) (mvT hZ (hw _ (List.mem_of_getElem? (i := 19) rfl))) (by decide) (backOf (W := 1) (rm_mix l Z aT hw [] ((((u0 &&& (255 : Int32)) ||| ((u1 &&& (255 : Int32)) <<< ((8 : Int32) &&& 31))) ||| ((u2 &&& (255 : Int32)) <<< ((16 : Int32) &&& 31))) ||| (u3 <<< ((24 : Int32) &&& 31))) h0 n0 Z0) hZ (hw _ (List.mem_of_getElem? (i := 19) rfl)) (hw _ (List.mem_of_getElem? (i := 4) rfl)) (by decide) (by decide)) (g := (mkF m 62 #[.val (.ref a0), .val (.int (0 : Int32)), .val (.int (4 : Int32)), .val (.int (0 : Int32)), .val (.int ((((u0 &&& (255 : Int32)) ||| ((u1 &&& (255 : Int32)) <<< ((8 : Int32) &&& 31))) ||| ((u2 &&& (255 : Int32)) <<< ((16 : Int32) &&& 31))) ||| (u3 <<< ((24 : Int32) &&& 31))))] [(.int ((((u0 &&& (255 : Int32)) ||| ((u1 &&& (255 : Int32)) <<< ((8 : Int32) &&& 31))) ||| ((u2 &&& (255 : Int32)) <<< ((16 : Int32) &&& 31))) ||| (u3 <<< ((24 : Int32) &&& 31)))), (.int (0 : Int32))])) rfl (by rw [hml]; rfl) (argsL := [(.int ((((u0 &&& (255 : Int32)) ||| ((u1 &&& (255 : Int32)) <<< ((8 : Int32) &&& 31))) ||| ((u2 &&& (255 : Int32)) <<< ((16 : Int32) &&& 31))) ||| (u3 <<< ((24 : Int32) &&& 31))))]) (rest := [(.int (0 : Int32))]) (lenOf pd1 rfl) rfl (by show 2 * 0 + _ ≤ _; exact Nat.le_of_eq rfl) (hb hby d_hs7_62) (fun _ _ => ⟨rfl, e0, (by decide : 0 + 0 ≤ _), (by decide : 0 + 0 ≤ _)⟩)
  dsimp only [Pt.U, Pt.locs, Pt.cells, Pt.slots] at X18 l18 y18 z18 st18 hQ18
  subst l18 y18 z18
  obtain ⟨rfl, N18q, eq18⟩ := hQ18
  have N18 := Fr.app N0 N18q
  refine own_go st18 ?_
  show own_Got p e below _ T18 (mkF m 65 #[.val (.ref a0), .val (.int (0 : Int32)), .val (.int (4 : Int32)), .val (.int (0 : Int32)), .val (.int ((((u0 &&& (255 : Int32)) ||| ((u1 &&& (255 : Int32)) <<< ((8 : Int32) &&& 31))) ||| ((u2 &&& (255 : Int32)) <<< ((16 : Int32) &&& 31))) ||| (u3 <<< ((24 : Int32) &&& 31))))] [(.int (F_mix ((((u0 &&& (255 : Int32)) ||| ((u1 &&& (255 : Int32)) <<< ((8 : Int32) &&& 31))) ||| ((u2 &&& (255 : Int32)) <<< ((16 : Int32) &&& 31))) ||| (u3 <<< ((24 : Int32) &&& 31))))), (.int (0 : Int32))])
  refine g_ixor X18 hx hby d_hs7_65 (rfl : 65 + 1 = 66) ?_
  refine g_istoreN X18 hx hby #[.val (.ref a0), .val (.int ((0 : Int32) ^^^ (F_mix ((((u0 &&& (255 : Int32)) ||| ((u1 &&& (255 : Int32)) <<< ((8 : Int32) &&& 31))) ||| ((u2 &&& (255 : Int32)) <<< ((16 : Int32) &&& 31))) ||| (u3 <<< ((24 : Int32) &&& 31)))))), .val (.int (4 : Int32)), .val (.int (0 : Int32)), .val (.int ((((u0 &&& (255 : Int32)) ||| ((u1 &&& (255 : Int32)) <<< ((8 : Int32) &&& 31))) ||| ((u2 &&& (255 : Int32)) <<< ((16 : Int32) &&& 31))) ||| (u3 <<< ((24 : Int32) &&& 31))))] d_hs7_66 rfl (rfl : 66 + 1 = 67) ?_
  refine g_iloadN X18 hx hby d_hs7_67 rfl (rfl : 67 + 1 = 68) ?_
  refine g_bipush X18 hx hby (13 : Int32) d_hs7_68 (by decide) (rfl : 68 + 2 = 70) ?_
  obtain ⟨_, _, ⟨T19, L19, k19, n19⟩, -, X19, ⟨Lc19, hQ19, l19, y19, z19⟩, st19⟩ := Jvm.LawKit.callS X18 hx (y := (⟨"java/lang/Integer", "rotateLeft", "(II)I"⟩ : MethodName)) hown (mvT hZ (hw _ (List.mem_of_getElem? (i := 21) rfl))) (mvT hZ (hw _ (List.mem_of_getElem? (i := 22) rfl))) (mvT hZ (hw _ (List.mem_of_getElem? (i := 23) rfl))) (mvT hZ (hw _ (List.mem_of_getElem? (i := 24) rfl))) (by decide) (backOf (W := 0) (rm_rot l Z aT hw [] ((0 : Int32) ^^^ (F_mix ((((u0 &&& (255 : Int32)) ||| ((u1 &&& (255 : Int32)) <<< ((8 : Int32) &&& 31))) ||| ((u2 &&& (255 : Int32)) <<< ((16 : Int32) &&& 31))) ||| (u3 <<< ((24 : Int32) &&& 31))))) (13 : Int32) h0 n0 Z0) hZ (hw _ (List.mem_of_getElem? (i := 24) rfl)) (hw _ (List.mem_of_getElem? (i := 23) rfl)) (by decide) (by decide)) (g := (mkF m 70 #[.val (.ref a0), .val (.int ((0 : Int32) ^^^ (F_mix ((((u0 &&& (255 : Int32)) ||| ((u1 &&& (255 : Int32)) <<< ((8 : Int32) &&& 31))) ||| ((u2 &&& (255 : Int32)) <<< ((16 : Int32) &&& 31))) ||| (u3 <<< ((24 : Int32) &&& 31)))))), .val (.int (4 : Int32)), .val (.int (0 : Int32)), .val (.int ((((u0 &&& (255 : Int32)) ||| ((u1 &&& (255 : Int32)) <<< ((8 : Int32) &&& 31))) ||| ((u2 &&& (255 : Int32)) <<< ((16 : Int32) &&& 31))) ||| (u3 <<< ((24 : Int32) &&& 31))))] [(.int (13 : Int32)), (.int ((0 : Int32) ^^^ (F_mix ((((u0 &&& (255 : Int32)) ||| ((u1 &&& (255 : Int32)) <<< ((8 : Int32) &&& 31))) ||| ((u2 &&& (255 : Int32)) <<< ((16 : Int32) &&& 31))) ||| (u3 <<< ((24 : Int32) &&& 31))))))])) rfl (by rw [hml]; rfl) (argsL := [(.int ((0 : Int32) ^^^ (F_mix ((((u0 &&& (255 : Int32)) ||| ((u1 &&& (255 : Int32)) <<< ((8 : Int32) &&& 31))) ||| ((u2 &&& (255 : Int32)) <<< ((16 : Int32) &&& 31))) ||| (u3 <<< ((24 : Int32) &&& 31)))))), (.int (13 : Int32))]) (rest := []) (lenOf pd0 rfl) rfl (by show 2 * 0 + _ ≤ _; exact Nat.le_of_eq rfl) (hb hby d_hs7_70) (fun _ _ => ⟨rfl, eq18, (by decide : 0 + 0 ≤ _), (by decide : 0 + 0 ≤ _)⟩)
  dsimp only [Pt.U, Pt.locs, Pt.cells, Pt.slots] at X19 l19 y19 z19 st19 hQ19
  subst l19 y19 z19
  obtain ⟨rfl, N19q, eq19⟩ := hQ19
  have N19 := Fr.app N18 N19q
  refine own_go st19 ?_
  show own_Got p e below _ T19 (mkF m 73 #[.val (.ref a0), .val (.int ((0 : Int32) ^^^ (F_mix ((((u0 &&& (255 : Int32)) ||| ((u1 &&& (255 : Int32)) <<< ((8 : Int32) &&& 31))) ||| ((u2 &&& (255 : Int32)) <<< ((16 : Int32) &&& 31))) ||| (u3 <<< ((24 : Int32) &&& 31)))))), .val (.int (4 : Int32)), .val (.int (0 : Int32)), .val (.int ((((u0 &&& (255 : Int32)) ||| ((u1 &&& (255 : Int32)) <<< ((8 : Int32) &&& 31))) ||| ((u2 &&& (255 : Int32)) <<< ((16 : Int32) &&& 31))) ||| (u3 <<< ((24 : Int32) &&& 31))))] [(.int (F_rot ((0 : Int32) ^^^ (F_mix ((((u0 &&& (255 : Int32)) ||| ((u1 &&& (255 : Int32)) <<< ((8 : Int32) &&& 31))) ||| ((u2 &&& (255 : Int32)) <<< ((16 : Int32) &&& 31))) ||| (u3 <<< ((24 : Int32) &&& 31))))) (13 : Int32)))])
  refine g_iconst X19 hx hby (5 : Int32) d_hs7_73 (by decide) (rfl : 73 + 1 = 74) ?_
  refine g_imul X19 hx hby d_hs7_74 (rfl : 74 + 1 = 75) ?_
  refine g_ldcI X19 hx hby hZ hown (hw _ (List.mem_of_getElem? (i := 31) rfl)) d_hs7_75 (rfl : 75 + 2 = 77) ?_
  refine g_iadd X19 hx hby d_hs7_77 (rfl : 77 + 1 = 78) ?_
  refine g_istoreN X19 hx hby #[.val (.ref a0), .val (.int (((F_rot ((0 : Int32) ^^^ (F_mix ((((u0 &&& (255 : Int32)) ||| ((u1 &&& (255 : Int32)) <<< ((8 : Int32) &&& 31))) ||| ((u2 &&& (255 : Int32)) <<< ((16 : Int32) &&& 31))) ||| (u3 <<< ((24 : Int32) &&& 31))))) (13 : Int32)) * (5 : Int32)) + (-430675100 : Int32))), .val (.int (4 : Int32)), .val (.int (0 : Int32)), .val (.int ((((u0 &&& (255 : Int32)) ||| ((u1 &&& (255 : Int32)) <<< ((8 : Int32) &&& 31))) ||| ((u2 &&& (255 : Int32)) <<< ((16 : Int32) &&& 31))) ||| (u3 <<< ((24 : Int32) &&& 31))))] d_hs7_78 rfl (rfl : 78 + 1 = 79) ?_
  refine g_iinc X19 hx hby #[.val (.ref a0), .val (.int (((F_rot ((0 : Int32) ^^^ (F_mix ((((u0 &&& (255 : Int32)) ||| ((u1 &&& (255 : Int32)) <<< ((8 : Int32) &&& 31))) ||| ((u2 &&& (255 : Int32)) <<< ((16 : Int32) &&& 31))) ||| (u3 <<< ((24 : Int32) &&& 31))))) (13 : Int32)) * (5 : Int32)) + (-430675100 : Int32))), .val (.int (4 : Int32)), .val (.int ((0 : Int32) + (4 : Int32))), .val (.int ((((u0 &&& (255 : Int32)) ||| ((u1 &&& (255 : Int32)) <<< ((8 : Int32) &&& 31))) ||| ((u2 &&& (255 : Int32)) <<< ((16 : Int32) &&& 31))) ||| (u3 <<< ((24 : Int32) &&& 31))))] d_hs7_79 rfl rfl (rfl : 79 + 3 = 82) ?_
  rw [(by decide : ((0 : Int32) + (4 : Int32)) = (4 : Int32))]
  refine g_goto X19 hx hby d_hs7_82 (by decide) (pc' := 10) (by decide) ?_
  refine g_iloadN X19 hx hby d_hs7_10 rfl (rfl : 10 + 1 = 11) ?_
  refine g_iloadN X19 hx hby d_hs7_11 rfl (rfl : 11 + 1 = 12) ?_
  refine g_icT X19 hx hby d_hs7_12 (flt (by decide : ¬ ((4 : Int32) < (4 : Int32)))).2.1 (by decide) (pc' := 85) (by decide) ?_
  refine g_aloadN X19 hx hby d_hs7_85 rfl rfl (rfl : 85 + 1 = 86) ?_
  refine g_alen X19 hx hby hZ eq19 hp0 d_hs7_86 (rfl : 86 + 1 = 87) ?_
  refine g_iconst X19 hx hby (3 : Int32) d_hs7_87 (by decide) (rfl : 87 + 1 = 88) ?_
  refine g_iand X19 hx hby d_hs7_88 (rfl : 88 + 1 = 89) ?_
  rw [(by decide : ((7 : Int32) &&& (3 : Int32)) = (3 : Int32))]
  refine g_istoreN X19 hx hby #[.val (.ref a0), .val (.int (((F_rot ((0 : Int32) ^^^ (F_mix ((((u0 &&& (255 : Int32)) ||| ((u1 &&& (255 : Int32)) <<< ((8 : Int32) &&& 31))) ||| ((u2 &&& (255 : Int32)) <<< ((16 : Int32) &&& 31))) ||| (u3 <<< ((24 : Int32) &&& 31))))) (13 : Int32)) * (5 : Int32)) + (-430675100 : Int32))), .val (.int (4 : Int32)), .val (.int (3 : Int32)), .val (.int ((((u0 &&& (255 : Int32)) ||| ((u1 &&& (255 : Int32)) <<< ((8 : Int32) &&& 31))) ||| ((u2 &&& (255 : Int32)) <<< ((16 : Int32) &&& 31))) ||| (u3 <<< ((24 : Int32) &&& 31))))] d_hs7_89 rfl (rfl : 89 + 1 = 90) ?_
  refine g_iloadN X19 hx hby d_hs7_90 rfl (rfl : 90 + 1 = 91) ?_
  refine g_ifF X19 hx hby d_hs7_91 ((if0 _ _).trans (tlt (by decide : (0 : Int32) < (3 : Int32))).2.2.2) (rfl : 91 + 3 = 94) ?_
  refine g_aloadN X19 hx hby d_hs7_94 rfl rfl (rfl : 94 + 1 = 95) ?_
  refine g_iloadN X19 hx hby d_hs7_95 rfl (rfl : 95 + 1 = 96) ?_
  refine g_baload X19 hx hby hZ eq19 (v := (.int u4)) hp0 ⟨by decide, by decide⟩ rfl d_hs7_96 (rfl : 96 + 1 = 97) ?_
  refine g_sipush X19 hx hby (255 : Int32) d_hs7_97 (by decide) (rfl : 97 + 3 = 100) ?_
  refine g_iand X19 hx hby d_hs7_100 (rfl : 100 + 1 = 101) ?_
  refine g_istore X19 hx hby #[.val (.ref a0), .val (.int (((F_rot ((0 : Int32) ^^^ (F_mix ((((u0 &&& (255 : Int32)) ||| ((u1 &&& (255 : Int32)) <<< ((8 : Int32) &&& 31))) ||| ((u2 &&& (255 : Int32)) <<< ((16 : Int32) &&& 31))) ||| (u3 <<< ((24 : Int32) &&& 31))))) (13 : Int32)) * (5 : Int32)) + (-430675100 : Int32))), .val (.int (4 : Int32)), .val (.int (3 : Int32)), .val (.int (u4 &&& (255 : Int32)))] d_hs7_101 rfl (rfl : 101 + 2 = 103) ?_
  refine g_iloadN X19 hx hby d_hs7_103 rfl (rfl : 103 + 1 = 104) ?_
  refine g_iconst X19 hx hby (1 : Int32) d_hs7_104 (by decide) (rfl : 104 + 1 = 105) ?_
  refine g_icF X19 hx hby d_hs7_105 (tlt (by decide : (1 : Int32) < (3 : Int32))).2.2.2 (rfl : 105 + 3 = 108) ?_
  refine g_iload X19 hx hby d_hs7_108 rfl (rfl : 108 + 2 = 110) ?_
  refine g_aloadN X19 hx hby d_hs7_110 rfl rfl (rfl : 110 + 1 = 111) ?_
  refine g_iloadN X19 hx hby d_hs7_111 rfl (rfl : 111 + 1 = 112) ?_
  refine g_iconst X19 hx hby (1 : Int32) d_hs7_112 (by decide) (rfl : 112 + 1 = 113) ?_
  refine g_iadd X19 hx hby d_hs7_113 (rfl : 113 + 1 = 114) ?_
  rw [(by decide : ((4 : Int32) + (1 : Int32)) = (5 : Int32))]
  refine g_baload X19 hx hby hZ eq19 (v := (.int u5)) hp0 ⟨by decide, by decide⟩ rfl d_hs7_114 (rfl : 114 + 1 = 115) ?_
  refine g_sipush X19 hx hby (255 : Int32) d_hs7_115 (by decide) (rfl : 115 + 3 = 118) ?_
  refine g_iand X19 hx hby d_hs7_118 (rfl : 118 + 1 = 119) ?_
  refine g_bipush X19 hx hby (8 : Int32) d_hs7_119 (by decide) (rfl : 119 + 2 = 121) ?_
  refine g_ishl X19 hx hby d_hs7_121 (rfl : 121 + 1 = 122) ?_
  refine g_ior X19 hx hby d_hs7_122 (rfl : 122 + 1 = 123) ?_
  refine g_istore X19 hx hby #[.val (.ref a0), .val (.int (((F_rot ((0 : Int32) ^^^ (F_mix ((((u0 &&& (255 : Int32)) ||| ((u1 &&& (255 : Int32)) <<< ((8 : Int32) &&& 31))) ||| ((u2 &&& (255 : Int32)) <<< ((16 : Int32) &&& 31))) ||| (u3 <<< ((24 : Int32) &&& 31))))) (13 : Int32)) * (5 : Int32)) + (-430675100 : Int32))), .val (.int (4 : Int32)), .val (.int (3 : Int32)), .val (.int ((u4 &&& (255 : Int32)) ||| ((u5 &&& (255 : Int32)) <<< ((8 : Int32) &&& 31))))] d_hs7_123 rfl (rfl : 123 + 2 = 125) ?_
  refine g_iloadN X19 hx hby d_hs7_125 rfl (rfl : 125 + 1 = 126) ?_
  refine g_iconst X19 hx hby (2 : Int32) d_hs7_126 (by decide) (rfl : 126 + 1 = 127) ?_
  refine g_icF X19 hx hby d_hs7_127 (tlt (by decide : (2 : Int32) < (3 : Int32))).2.2.2 (rfl : 127 + 3 = 130) ?_
  refine g_iload X19 hx hby d_hs7_130 rfl (rfl : 130 + 2 = 132) ?_
  refine g_aloadN X19 hx hby d_hs7_132 rfl rfl (rfl : 132 + 1 = 133) ?_
  refine g_iloadN X19 hx hby d_hs7_133 rfl (rfl : 133 + 1 = 134) ?_
  refine g_iconst X19 hx hby (2 : Int32) d_hs7_134 (by decide) (rfl : 134 + 1 = 135) ?_
  refine g_iadd X19 hx hby d_hs7_135 (rfl : 135 + 1 = 136) ?_
  rw [(by decide : ((4 : Int32) + (2 : Int32)) = (6 : Int32))]
  refine g_baload X19 hx hby hZ eq19 (v := (.int u6)) hp0 ⟨by decide, by decide⟩ rfl d_hs7_136 (rfl : 136 + 1 = 137) ?_
  refine g_sipush X19 hx hby (255 : Int32) d_hs7_137 (by decide) (rfl : 137 + 3 = 140) ?_
  refine g_iand X19 hx hby d_hs7_140 (rfl : 140 + 1 = 141) ?_
  refine g_bipush X19 hx hby (16 : Int32) d_hs7_141 (by decide) (rfl : 141 + 2 = 143) ?_
  refine g_ishl X19 hx hby d_hs7_143 (rfl : 143 + 1 = 144) ?_
  refine g_ior X19 hx hby d_hs7_144 (rfl : 144 + 1 = 145) ?_
  refine g_istore X19 hx hby #[.val (.ref a0), .val (.int (((F_rot ((0 : Int32) ^^^ (F_mix ((((u0 &&& (255 : Int32)) ||| ((u1 &&& (255 : Int32)) <<< ((8 : Int32) &&& 31))) ||| ((u2 &&& (255 : Int32)) <<< ((16 : Int32) &&& 31))) ||| (u3 <<< ((24 : Int32) &&& 31))))) (13 : Int32)) * (5 : Int32)) + (-430675100 : Int32))), .val (.int (4 : Int32)), .val (.int (3 : Int32)), .val (.int (((u4 &&& (255 : Int32)) ||| ((u5 &&& (255 : Int32)) <<< ((8 : Int32) &&& 31))) ||| ((u6 &&& (255 : Int32)) <<< ((16 : Int32) &&& 31))))] d_hs7_145 rfl (rfl : 145 + 2 = 147) ?_
  refine g_iloadN X19 hx hby d_hs7_147 rfl (rfl : 147 + 1 = 148) ?_
  refine g_iload X19 hx hby d_hs7_148 rfl (rfl : 148 + 2 = 150) ?_
  obtain ⟨_, _, ⟨T20, L20, k20, n20⟩, -, X20, ⟨Lc20, hQ20, l20, y20, z20⟩, st20⟩ := Jvm.LawKit.callS X19 hx (y := (⟨"com/example/farshard/farshard/store/Murmur3", "mixBlock", "(I)I"⟩ : MethodName)) hown (mvT hZ (hw _ (List.mem_of_getElem? (i := 17) rfl))) (mvT hZ (hw _ (List.mem_of_getElem? (i := 18) rfl))) (mvT hZ (hw _ (List.mem_of_getElem? (i := 4) rfl))) (mvT hZ (hw _ (List.mem_of_getElem? (i := 19) rfl))) (by decide) (backOf (W := 1) (rm_mix l Z aT hw [] (((u4 &&& (255 : Int32)) ||| ((u5 &&& (255 : Int32)) <<< ((8 : Int32) &&& 31))) ||| ((u6 &&& (255 : Int32)) <<< ((16 : Int32) &&& 31))) h0 n0 Z0) hZ (hw _ (List.mem_of_getElem? (i := 19) rfl)) (hw _ (List.mem_of_getElem? (i := 4) rfl)) (by decide) (by decide)) (g := (mkF m 150 #[.val (.ref a0), .val (.int (((F_rot ((0 : Int32) ^^^ (F_mix ((((u0 &&& (255 : Int32)) ||| ((u1 &&& (255 : Int32)) <<< ((8 : Int32) &&& 31))) ||| ((u2 &&& (255 : Int32)) <<< ((16 : Int32) &&& 31))) ||| (u3 <<< ((24 : Int32) &&& 31))))) (13 : Int32)) * (5 : Int32)) + (-430675100 : Int32))), .val (.int (4 : Int32)), .val (.int (3 : Int32)), .val (.int (((u4 &&& (255 : Int32)) ||| ((u5 &&& (255 : Int32)) <<< ((8 : Int32) &&& 31))) ||| ((u6 &&& (255 : Int32)) <<< ((16 : Int32) &&& 31))))] [(.int (((u4 &&& (255 : Int32)) ||| ((u5 &&& (255 : Int32)) <<< ((8 : Int32) &&& 31))) ||| ((u6 &&& (255 : Int32)) <<< ((16 : Int32) &&& 31)))), (.int (((F_rot ((0 : Int32) ^^^ (F_mix ((((u0 &&& (255 : Int32)) ||| ((u1 &&& (255 : Int32)) <<< ((8 : Int32) &&& 31))) ||| ((u2 &&& (255 : Int32)) <<< ((16 : Int32) &&& 31))) ||| (u3 <<< ((24 : Int32) &&& 31))))) (13 : Int32)) * (5 : Int32)) + (-430675100 : Int32)))])) rfl (by rw [hml]; rfl) (argsL := [(.int (((u4 &&& (255 : Int32)) ||| ((u5 &&& (255 : Int32)) <<< ((8 : Int32) &&& 31))) ||| ((u6 &&& (255 : Int32)) <<< ((16 : Int32) &&& 31))))]) (rest := [(.int (((F_rot ((0 : Int32) ^^^ (F_mix ((((u0 &&& (255 : Int32)) ||| ((u1 &&& (255 : Int32)) <<< ((8 : Int32) &&& 31))) ||| ((u2 &&& (255 : Int32)) <<< ((16 : Int32) &&& 31))) ||| (u3 <<< ((24 : Int32) &&& 31))))) (13 : Int32)) * (5 : Int32)) + (-430675100 : Int32)))]) (lenOf pd1 rfl) rfl (by show 2 * 0 + _ ≤ _; exact Nat.le_of_eq rfl) (hb hby d_hs7_150) (fun _ _ => ⟨rfl, eq19, (by decide : 0 + 0 ≤ _), (by decide : 0 + 0 ≤ _)⟩)
  dsimp only [Pt.U, Pt.locs, Pt.cells, Pt.slots] at X20 l20 y20 z20 st20 hQ20
  subst l20 y20 z20
  obtain ⟨rfl, N20q, eq20⟩ := hQ20
  have N20 := Fr.app N19 N20q
  refine own_go st20 ?_
  show own_Got p e below _ T20 (mkF m 153 #[.val (.ref a0), .val (.int (((F_rot ((0 : Int32) ^^^ (F_mix ((((u0 &&& (255 : Int32)) ||| ((u1 &&& (255 : Int32)) <<< ((8 : Int32) &&& 31))) ||| ((u2 &&& (255 : Int32)) <<< ((16 : Int32) &&& 31))) ||| (u3 <<< ((24 : Int32) &&& 31))))) (13 : Int32)) * (5 : Int32)) + (-430675100 : Int32))), .val (.int (4 : Int32)), .val (.int (3 : Int32)), .val (.int (((u4 &&& (255 : Int32)) ||| ((u5 &&& (255 : Int32)) <<< ((8 : Int32) &&& 31))) ||| ((u6 &&& (255 : Int32)) <<< ((16 : Int32) &&& 31))))] [(.int (F_mix (((u4 &&& (255 : Int32)) ||| ((u5 &&& (255 : Int32)) <<< ((8 : Int32) &&& 31))) ||| ((u6 &&& (255 : Int32)) <<< ((16 : Int32) &&& 31))))), (.int (((F_rot ((0 : Int32) ^^^ (F_mix ((((u0 &&& (255 : Int32)) ||| ((u1 &&& (255 : Int32)) <<< ((8 : Int32) &&& 31))) ||| ((u2 &&& (255 : Int32)) <<< ((16 : Int32) &&& 31))) ||| (u3 <<< ((24 : Int32) &&& 31))))) (13 : Int32)) * (5 : Int32)) + (-430675100 : Int32)))])
  refine g_ixor X20 hx hby d_hs7_153 (rfl : 153 + 1 = 154) ?_
  refine g_istoreN X20 hx hby #[.val (.ref a0), .val (.int ((((F_rot ((0 : Int32) ^^^ (F_mix ((((u0 &&& (255 : Int32)) ||| ((u1 &&& (255 : Int32)) <<< ((8 : Int32) &&& 31))) ||| ((u2 &&& (255 : Int32)) <<< ((16 : Int32) &&& 31))) ||| (u3 <<< ((24 : Int32) &&& 31))))) (13 : Int32)) * (5 : Int32)) + (-430675100 : Int32)) ^^^ (F_mix (((u4 &&& (255 : Int32)) ||| ((u5 &&& (255 : Int32)) <<< ((8 : Int32) &&& 31))) ||| ((u6 &&& (255 : Int32)) <<< ((16 : Int32) &&& 31)))))), .val (.int (4 : Int32)), .val (.int (3 : Int32)), .val (.int (((u4 &&& (255 : Int32)) ||| ((u5 &&& (255 : Int32)) <<< ((8 : Int32) &&& 31))) ||| ((u6 &&& (255 : Int32)) <<< ((16 : Int32) &&& 31))))] d_hs7_154 rfl (rfl : 154 + 1 = 155) ?_
  refine g_iloadN X20 hx hby d_hs7_155 rfl (rfl : 155 + 1 = 156) ?_
  refine g_aloadN X20 hx hby d_hs7_156 rfl rfl (rfl : 156 + 1 = 157) ?_
  refine g_alen X20 hx hby hZ eq20 hp0 d_hs7_157 (rfl : 157 + 1 = 158) ?_
  refine g_ixor X20 hx hby d_hs7_158 (rfl : 158 + 1 = 159) ?_
  refine g_istoreN X20 hx hby #[.val (.ref a0), .val (.int (((((F_rot ((0 : Int32) ^^^ (F_mix ((((u0 &&& (255 : Int32)) ||| ((u1 &&& (255 : Int32)) <<< ((8 : Int32) &&& 31))) ||| ((u2 &&& (255 : Int32)) <<< ((16 : Int32) &&& 31))) ||| (u3 <<< ((24 : Int32) &&& 31))))) (13 : Int32)) * (5 : Int32)) + (-430675100 : Int32)) ^^^ (F_mix (((u4 &&& (255 : Int32)) ||| ((u5 &&& (255 : Int32)) <<< ((8 : Int32) &&& 31))) ||| ((u6 &&& (255 : Int32)) <<< ((16 : Int32) &&& 31))))) ^^^ (7 : Int32))), .val (.int (4 : Int32)), .val (.int (3 : Int32)), .val (.int (((u4 &&& (255 : Int32)) ||| ((u5 &&& (255 : Int32)) <<< ((8 : Int32) &&& 31))) ||| ((u6 &&& (255 : Int32)) <<< ((16 : Int32) &&& 31))))] d_hs7_159 rfl (rfl : 159 + 1 = 160) ?_
  refine g_iloadN X20 hx hby d_hs7_160 rfl (rfl : 160 + 1 = 161) ?_
  refine g_iloadN X20 hx hby d_hs7_161 rfl (rfl : 161 + 1 = 162) ?_
  refine g_bipush X20 hx hby (16 : Int32) d_hs7_162 (by decide) (rfl : 162 + 2 = 164) ?_
  refine g_iushr X20 hx hby d_hs7_164 (rfl : 164 + 1 = 165) ?_
  refine g_ixor X20 hx hby d_hs7_165 (rfl : 165 + 1 = 166) ?_
  refine g_istoreN X20 hx hby #[.val (.ref a0), .val (.int ((((((F_rot ((0 : Int32) ^^^ (F_mix ((((u0 &&& (255 : Int32)) ||| ((u1 &&& (255 : Int32)) <<< ((8 : Int32) &&& 31))) ||| ((u2 &&& (255 : Int32)) <<< ((16 : Int32) &&& 31))) ||| (u3 <<< ((24 : Int32) &&& 31))))) (13 : Int32)) * (5 : Int32)) + (-430675100 : Int32)) ^^^ (F_mix (((u4 &&& (255 : Int32)) ||| ((u5 &&& (255 : Int32)) <<< ((8 : Int32) &&& 31))) ||| ((u6 &&& (255 : Int32)) <<< ((16 : Int32) &&& 31))))) ^^^ (7 : Int32)) ^^^ (((((((F_rot ((0 : Int32) ^^^ (F_mix ((((u0 &&& (255 : Int32)) ||| ((u1 &&& (255 : Int32)) <<< ((8 : Int32) &&& 31))) ||| ((u2 &&& (255 : Int32)) <<< ((16 : Int32) &&& 31))) ||| (u3 <<< ((24 : Int32) &&& 31))))) (13 : Int32)) * (5 : Int32)) + (-430675100 : Int32)) ^^^ (F_mix (((u4 &&& (255 : Int32)) ||| ((u5 &&& (255 : Int32)) <<< ((8 : Int32) &&& 31))) ||| ((u6 &&& (255 : Int32)) <<< ((16 : Int32) &&& 31))))) ^^^ (7 : Int32)).toUInt32 >>> ((16 : Int32) &&& 31).toUInt32).toInt32))), .val (.int (4 : Int32)), .val (.int (3 : Int32)), .val (.int (((u4 &&& (255 : Int32)) ||| ((u5 &&& (255 : Int32)) <<< ((8 : Int32) &&& 31))) ||| ((u6 &&& (255 : Int32)) <<< ((16 : Int32) &&& 31))))] d_hs7_166 rfl (rfl : 166 + 1 = 167) ?_
  refine g_iloadN X20 hx hby d_hs7_167 rfl (rfl : 167 + 1 = 168) ?_
  refine g_ldcI X20 hx hby hZ hown (hw _ (List.mem_of_getElem? (i := 6) rfl)) d_hs7_168 (rfl : 168 + 2 = 170) ?_
  refine g_imul X20 hx hby d_hs7_170 (rfl : 170 + 1 = 171) ?_
  refine g_istoreN X20 hx hby #[.val (.ref a0), .val (.int (((((((F_rot ((0 : Int32) ^^^ (F_mix ((((u0 &&& (255 : Int32)) ||| ((u1 &&& (255 : Int32)) <<< ((8 : Int32) &&& 31))) ||| ((u2 &&& (255 : Int32)) <<< ((16 : Int32) &&& 31))) ||| (u3 <<< ((24 : Int32) &&& 31))))) (13 : Int32)) * (5 : Int32)) + (-430675100 : Int32)) ^^^ (F_mix (((u4 &&& (255 : Int32)) ||| ((u5 &&& (255 : Int32)) <<< ((8 : Int32) &&& 31))) ||| ((u6 &&& (255 : Int32)) <<< ((16 : Int32) &&& 31))))) ^^^ (7 : Int32)) ^^^ (((((((F_rot ((0 : Int32) ^^^ (F_mix ((((u0 &&& (255 : Int32)) ||| ((u1 &&& (255 : Int32)) <<< ((8 : Int32) &&& 31))) ||| ((u2 &&& (255 : Int32)) <<< ((16 : Int32) &&& 31))) ||| (u3 <<< ((24 : Int32) &&& 31))))) (13 : Int32)) * (5 : Int32)) + (-430675100 : Int32)) ^^^ (F_mix (((u4 &&& (255 : Int32)) ||| ((u5 &&& (255 : Int32)) <<< ((8 : Int32) &&& 31))) ||| ((u6 &&& (255 : Int32)) <<< ((16 : Int32) &&& 31))))) ^^^ (7 : Int32)).toUInt32 >>> ((16 : Int32) &&& 31).toUInt32).toInt32)) * (-2048144789 : Int32))), .val (.int (4 : Int32)), .val (.int (3 : Int32)), .val (.int (((u4 &&& (255 : Int32)) ||| ((u5 &&& (255 : Int32)) <<< ((8 : Int32) &&& 31))) ||| ((u6 &&& (255 : Int32)) <<< ((16 : Int32) &&& 31))))] d_hs7_171 rfl (rfl : 171 + 1 = 172) ?_
  refine g_iloadN X20 hx hby d_hs7_172 rfl (rfl : 172 + 1 = 173) ?_
  refine g_iloadN X20 hx hby d_hs7_173 rfl (rfl : 173 + 1 = 174) ?_
  refine g_bipush X20 hx hby (13 : Int32) d_hs7_174 (by decide) (rfl : 174 + 2 = 176) ?_
  refine g_iushr X20 hx hby d_hs7_176 (rfl : 176 + 1 = 177) ?_
  refine g_ixor X20 hx hby d_hs7_177 (rfl : 177 + 1 = 178) ?_
  refine g_istoreN X20 hx hby #[.val (.ref a0), .val (.int ((((((((F_rot ((0 : Int32) ^^^ (F_mix ((((u0 &&& (255 : Int32)) ||| ((u1 &&& (255 : Int32)) <<< ((8 : Int32) &&& 31))) ||| ((u2 &&& (255 : Int32)) <<< ((16 : Int32) &&& 31))) ||| (u3 <<< ((24 : Int32) &&& 31))))) (13 : Int32)) * (5 : Int32)) + (-430675100 : Int32)) ^^^ (F_mix (((u4 &&& (255 : Int32)) ||| ((u5 &&& (255 : Int32)) <<< ((8 : Int32) &&& 31))) ||| ((u6 &&& (255 : Int32)) <<< ((16 : Int32) &&& 31))))) ^^^ (7 : Int32)) ^^^ (((((((F_rot ((0 : Int32) ^^^ (F_mix ((((u0 &&& (255 : Int32)) ||| ((u1 &&& (255 : Int32)) <<< ((8 : Int32) &&& 31))) ||| ((u2 &&& (255 : Int32)) <<< ((16 : Int32) &&& 31))) ||| (u3 <<< ((24 : Int32) &&& 31))))) (13 : Int32)) * (5 : Int32)) + (-430675100 : Int32)) ^^^ (F_mix (((u4 &&& (255 : Int32)) ||| ((u5 &&& (255 : Int32)) <<< ((8 : Int32) &&& 31))) ||| ((u6 &&& (255 : Int32)) <<< ((16 : Int32) &&& 31))))) ^^^ (7 : Int32)).toUInt32 >>> ((16 : Int32) &&& 31).toUInt32).toInt32)) * (-2048144789 : Int32)) ^^^ (((((((((F_rot ((0 : Int32) ^^^ (F_mix ((((u0 &&& (255 : Int32)) ||| ((u1 &&& (255 : Int32)) <<< ((8 : Int32) &&& 31))) ||| ((u2 &&& (255 : Int32)) <<< ((16 : Int32) &&& 31))) ||| (u3 <<< ((24 : Int32) &&& 31))))) (13 : Int32)) * (5 : Int32)) + (-430675100 : Int32)) ^^^ (F_mix (((u4 &&& (255 : Int32)) ||| ((u5 &&& (255 : Int32)) <<< ((8 : Int32) &&& 31))) ||| ((u6 &&& (255 : Int32)) <<< ((16 : Int32) &&& 31))))) ^^^ (7 : Int32)) ^^^ (((((((F_rot ((0 : Int32) ^^^ (F_mix ((((u0 &&& (255 : Int32)) ||| ((u1 &&& (255 : Int32)) <<< ((8 : Int32) &&& 31))) ||| ((u2 &&& (255 : Int32)) <<< ((16 : Int32) &&& 31))) ||| (u3 <<< ((24 : Int32) &&& 31))))) (13 : Int32)) * (5 : Int32)) + (-430675100 : Int32)) ^^^ (F_mix (((u4 &&& (255 : Int32)) ||| ((u5 &&& (255 : Int32)) <<< ((8 : Int32) &&& 31))) ||| ((u6 &&& (255 : Int32)) <<< ((16 : Int32) &&& 31))))) ^^^ (7 : Int32)).toUInt32 >>> ((16 : Int32) &&& 31).toUInt32).toInt32)) * (-2048144789 : Int32)).toUInt32 >>> ((13 : Int32) &&& 31).toUInt32).toInt32))), .val (.int (4 : Int32)), .val (.int (3 : Int32)), .val (.int (((u4 &&& (255 : Int32)) ||| ((u5 &&& (255 : Int32)) <<< ((8 : Int32) &&& 31))) ||| ((u6 &&& (255 : Int32)) <<< ((16 : Int32) &&& 31))))] d_hs7_178 rfl (rfl : 178 + 1 = 179) ?_
  refine g_iloadN X20 hx hby d_hs7_179 rfl (rfl : 179 + 1 = 180) ?_
  refine g_ldcI X20 hx hby hZ hown (hw _ (List.mem_of_getElem? (i := 7) rfl)) d_hs7_180 (rfl : 180 + 2 = 182) ?_
  refine g_imul X20 hx hby d_hs7_182 (rfl : 182 + 1 = 183) ?_
  refine g_istoreN X20 hx hby #[.val (.ref a0), .val (.int (((((((((F_rot ((0 : Int32) ^^^ (F_mix ((((u0 &&& (255 : Int32)) ||| ((u1 &&& (255 : Int32)) <<< ((8 : Int32) &&& 31))) ||| ((u2 &&& (255 : Int32)) <<< ((16 : Int32) &&& 31))) ||| (u3 <<< ((24 : Int32) &&& 31))))) (13 : Int32)) * (5 : Int32)) + (-430675100 : Int32)) ^^^ (F_mix (((u4 &&& (255 : Int32)) ||| ((u5 &&& (255 : Int32)) <<< ((8 : Int32) &&& 31))) ||| ((u6 &&& (255 : Int32)) <<< ((16 : Int32) &&& 31))))) ^^^ (7 : Int32)) ^^^ (((((((F_rot ((0 : Int32) ^^^ (F_mix ((((u0 &&& (255 : Int32)) ||| ((u1 &&& (255 : Int32)) <<< ((8 : Int32) &&& 31))) ||| ((u2 &&& (255 : Int32)) <<< ((16 : Int32) &&& 31))) ||| (u3 <<< ((24 : Int32) &&& 31))))) (13 : Int32)) * (5 : Int32)) + (-430675100 : Int32)) ^^^ (F_mix (((u4 &&& (255 : Int32)) ||| ((u5 &&& (255 : Int32)) <<< ((8 : Int32) &&& 31))) ||| ((u6 &&& (255 : Int32)) <<< ((16 : Int32) &&& 31))))) ^^^ (7 : Int32)).toUInt32 >>> ((16 : Int32) &&& 31).toUInt32).toInt32)) * (-2048144789 : Int32)) ^^^ (((((((((F_rot ((0 : Int32) ^^^ (F_mix ((((u0 &&& (255 : Int32)) ||| ((u1 &&& (255 : Int32)) <<< ((8 : Int32) &&& 31))) ||| ((u2 &&& (255 : Int32)) <<< ((16 : Int32) &&& 31))) ||| (u3 <<< ((24 : Int32) &&& 31))))) (13 : Int32)) * (5 : Int32)) + (-430675100 : Int32)) ^^^ (F_mix (((u4 &&& (255 : Int32)) ||| ((u5 &&& (255 : Int32)) <<< ((8 : Int32) &&& 31))) ||| ((u6 &&& (255 : Int32)) <<< ((16 : Int32) &&& 31))))) ^^^ (7 : Int32)) ^^^ (((((((F_rot ((0 : Int32) ^^^ (F_mix ((((u0 &&& (255 : Int32)) ||| ((u1 &&& (255 : Int32)) <<< ((8 : Int32) &&& 31))) ||| ((u2 &&& (255 : Int32)) <<< ((16 : Int32) &&& 31))) ||| (u3 <<< ((24 : Int32) &&& 31))))) (13 : Int32)) * (5 : Int32)) + (-430675100 : Int32)) ^^^ (F_mix (((u4 &&& (255 : Int32)) ||| ((u5 &&& (255 : Int32)) <<< ((8 : Int32) &&& 31))) ||| ((u6 &&& (255 : Int32)) <<< ((16 : Int32) &&& 31))))) ^^^ (7 : Int32)).toUInt32 >>> ((16 : Int32) &&& 31).toUInt32).toInt32)) * (-2048144789 : Int32)).toUInt32 >>> ((13 : Int32) &&& 31).toUInt32).toInt32)) * (-1028477387 : Int32))), .val (.int (4 : Int32)), .val (.int (3 : Int32)), .val (.int (((u4 &&& (255 : Int32)) ||| ((u5 &&& (255 : Int32)) <<< ((8 : Int32) &&& 31))) ||| ((u6 &&& (255 : Int32)) <<< ((16 : Int32) &&& 31))))] d_hs7_183 rfl (rfl : 183 + 1 = 184) ?_
  refine g_iloadN X20 hx hby d_hs7_184 rfl (rfl : 184 + 1 = 185) ?_
  refine g_iloadN X20 hx hby d_hs7_185 rfl (rfl : 185 + 1 = 186) ?_
  refine g_bipush X20 hx hby (16 : Int32) d_hs7_186 (by decide) (rfl : 186 + 2 = 188) ?_
  refine g_iushr X20 hx hby d_hs7_188 (rfl : 188 + 1 = 189) ?_
  refine g_ixor X20 hx hby d_hs7_189 (rfl : 189 + 1 = 190) ?_
  refine own_retI X20 hx hby hlk hrt d_hs7_190 (by decide) (by decide) ?_
  show Q_hs7 Z a0 kk u0 u1 u2 u3 u4 u5 u6 h0 n0 _ T20.heap _
  exact ⟨rfl, N20, eq20⟩
theorem d_hs8_0 : decode prog_62_method_2_code 0 = .ok (.iconst 0, 1) := by decide +kernel
theorem d_hs8_1 : decode prog_62_method_2_code 1 = .ok (.istore_n 1, 1) := by decide +kernel
theorem d_hs8_2 : decode prog_62_method_2_code 2 = .ok (.aload_n 0, 1) := by decide +kernel
theorem d_hs8_3 : decode prog_62_method_2_code 3 = .ok (.arraylength, 1) := by decide +kernel
theorem d_hs8_4 : decode prog_62_method_2_code 4 = .ok (.bipush (-4), 2) := by decide +kernel
theorem d_hs8_6 : decode prog_62_method_2_code 6 = .ok (.iand, 1) := by decide +kernel
theorem d_hs8_7 : decode prog_62_method_2_code 7 = .ok (.istore_n 2, 1) := by decide +kernel
theorem d_hs8_8 : decode prog_62_method_2_code 8 = .ok (.iconst 0, 1) := by decide +kernel
theorem d_hs8_9 : decode prog_62_method_2_code 9 = .ok (.istore_n 3, 1) := by decide +kernel
theorem d_hs8_10 : decode prog_62_method_2_code 10 = .ok (.iload_n 3, 1) := by decide +kernel
theorem d_hs8_11 : decode prog_62_method_2_code 11 = .ok (.iload_n 2, 1) := by decide +kernel
theorem d_hs8_12 : decode prog_62_method_2_code 12 = .ok (.if_icmp .ge 73, 3) := by decide +kernel
theorem d_hs8_15 : decode prog_62_method_2_code 15 = .ok (.aload_n 0, 1) := by decide +kernel
theorem d_hs8_16 : decode prog_62_method_2_code 16 = .ok (.iload_n 3, 1) := by decide +kernel
theorem d_hs8_17 : decode prog_62_method_2_code 17 = .ok (.baload, 1) := by decide +kernel
theorem d_hs8_18 : decode prog_62_method_2_code 18 = .ok (.sipush 255, 3) := by decide +kernel
theorem d_hs8_21 : decode prog_62_method_2_code 21 = .ok (.iand, 1) := by decide +kernel
theorem d_hs8_22 : decode prog_62_method_2_code 22 = .ok (.aload_n 0, 1) := by decide +kernel
theorem d_hs8_23 : decode prog_62_method_2_code 23 = .ok (.iload_n 3, 1) := by decide +kernel
theorem d_hs8_24 : decode prog_62_method_2_code 24 = .ok (.iconst 1, 1) := by decide +kernel
theorem d_hs8_25 : decode prog_62_method_2_code 25 = .ok (.iadd, 1) := by decide +kernel
theorem d_hs8_26 : decode prog_62_method_2_code 26 = .ok (.baload, 1) := by decide +kernel
theorem d_hs8_27 : decode prog_62_method_2_code 27 = .ok (.sipush 255, 3) := by decide +kernel
theorem d_hs8_30 : decode prog_62_method_2_code 30 = .ok (.iand, 1) := by decide +kernel
theorem d_hs8_31 : decode prog_62_method_2_code 31 = .ok (.bipush 8, 2) := by decide +kernel
theorem d_hs8_33 : decode prog_62_method_2_code 33 = .ok (.ishl, 1) := by decide +kernel
theorem d_hs8_34 : decode prog_62_method_2_code 34 = .ok (.ior, 1) := by decide +kernel
theorem d_hs8_35 : decode prog_62_method_2_code 35 = .ok (.aload_n 0, 1) := by decide +kernel
theorem d_hs8_36 : decode prog_62_method_2_code 36 = .ok (.iload_n 3, 1) := by decide +kernel
theorem d_hs8_37 : decode prog_62_method_2_code 37 = .ok (.iconst 2, 1) := by decide +kernel
theorem d_hs8_38 : decode prog_62_method_2_code 38 = .ok (.iadd, 1) := by decide +kernel
theorem d_hs8_39 : decode prog_62_method_2_code 39 = .ok (.baload, 1) := by decide +kernel
theorem d_hs8_40 : decode prog_62_method_2_code 40 = .ok (.sipush 255, 3) := by decide +kernel
theorem d_hs8_43 : decode prog_62_method_2_code 43 = .ok (.iand, 1) := by decide +kernel
theorem d_hs8_44 : decode prog_62_method_2_code 44 = .ok (.bipush 16, 2) := by decide +kernel
theorem d_hs8_46 : decode prog_62_method_2_code 46 = .ok (.ishl, 1) := by decide +kernel
theorem d_hs8_47 : decode prog_62_method_2_code 47 = .ok (.ior, 1) := by decide +kernel
theorem d_hs8_48 : decode prog_62_method_2_code 48 = .ok (.aload_n 0, 1) := by decide +kernel
theorem d_hs8_49 : decode prog_62_method_2_code 49 = .ok (.iload_n 3, 1) := by decide +kernel
theorem d_hs8_50 : decode prog_62_method_2_code 50 = .ok (.iconst 3, 1) := by decide +kernel
theorem d_hs8_51 : decode prog_62_method_2_code 51 = .ok (.iadd, 1) := by decide +kernel
theorem d_hs8_52 : decode prog_62_method_2_code 52 = .ok (.baload, 1) := by decide +kernel
theorem d_hs8_53 : decode prog_62_method_2_code 53 = .ok (.bipush 24, 2) := by decide +kernel
theorem d_hs8_55 : decode prog_62_method_2_code 55 = .ok (.ishl, 1) := by decide +kernel
theorem d_hs8_56 : decode prog_62_method_2_code 56 = .ok (.ior, 1) := by decide +kernel
theorem d_hs8_57 : decode prog_62_method_2_code 57 = .ok (.istore 4, 2) := by decide +kernel
theorem d_hs8_59 : decode prog_62_method_2_code 59 = .ok (.iload_n 1, 1) := by decide +kernel
theorem d_hs8_60 : decode prog_62_method_2_code 60 = .ok (.iload 4, 2) := by decide +kernel
theorem d_hs8_62 : decode prog_62_method_2_code 62 = .ok (.invokestatic 7, 3) := by decide +kernel
theorem d_hs8_65 : decode prog_62_method_2_code 65 = .ok (.ixor, 1) := by decide +kernel
theorem d_hs8_66 : decode prog_62_method_2_code 66 = .ok (.istore_n 1, 1) := by decide +kernel
theorem d_hs8_67 : decode prog_62_method_2_code 67 = .ok (.iload_n 1, 1) := by decide +kernel
theorem d_hs8_68 : decode prog_62_method_2_code 68 = .ok (.bipush 13, 2) := by decide +kernel
theorem d_hs8_70 : decode prog_62_method_2_code 70 = .ok (.invokestatic 13, 3) := by decide +kernel
theorem d_hs8_73 : decode prog_62_method_2_code 73 = .ok (.iconst 5, 1) := by decide +kernel
theorem d_hs8_74 : decode prog_62_method_2_code 74 = .ok (.imul, 1) := by decide +kernel
theorem d_hs8_75 : decode prog_62_method_2_code 75 = .ok (.ldc 19, 2) := by decide +kernel
theorem d_hs8_77 : decode prog_62_method_2_code 77 = .ok (.iadd, 1) := by decide +kernel
theorem d_hs8_78 : decode prog_62_method_2_code 78 = .ok (.istore_n 1, 1) := by decide +kernel
theorem d_hs8_79 : decode prog_62_method_2_code 79 = .ok (.iinc 3 4, 3) := by decide +kernel
theorem d_hs8_82 : decode prog_62_method_2_code 82 = .ok (.goto (-72), 3) := by decide +kernel
theorem d_hs8_85 : decode prog_62_method_2_code 85 = .ok (.aload_n 0, 1) := by decide +kernel
theorem d_hs8_86 : decode prog_62_method_2_code 86 = .ok (.arraylength, 1) := by decide +kernel
theorem d_hs8_87 : decode prog_62_method_2_code 87 = .ok (.iconst 3, 1) := by decide +kernel
theorem d_hs8_88 : decode prog_62_method_2_code 88 = .ok (.iand, 1) := by decide +kernel
theorem d_hs8_89 : decode prog_62_method_2_code 89 = .ok (.istore_n 3, 1) := by decide +kernel
theorem d_hs8_90 : decode prog_62_method_2_code 90 = .ok (.iload_n 3, 1) := by decide +kernel
theorem d_hs8_91 : decode prog_62_method_2_code 91 = .ok (.ifCond .le 64, 3) := by decide +kernel
theorem d_hs8_155 : decode prog_62_method_2_code 155 = .ok (.iload_n 1, 1) := by decide +kernel
theorem d_hs8_156 : decode prog_62_method_2_code 156 = .ok (.aload_n 0, 1) := by decide +kernel
theorem d_hs8_157 : decode prog_62_method_2_code 157 = .ok (.arraylength, 1) := by decide +kernel
theorem d_hs8_158 : decode prog_62_method_2_code 158 = .ok (.ixor, 1) := by decide +kernel
theorem d_hs8_159 : decode prog_62_method_2_code 159 = .ok (.istore_n 1, 1) := by decide +kernel
theorem d_hs8_160 : decode prog_62_method_2_code 160 = .ok (.iload_n 1, 1) := by decide +kernel
theorem d_hs8_161 : decode prog_62_method_2_code 161 = .ok (.iload_n 1, 1) := by decide +kernel
theorem d_hs8_162 : decode prog_62_method_2_code 162 = .ok (.bipush 16, 2) := by decide +kernel
theorem d_hs8_164 : decode prog_62_method_2_code 164 = .ok (.iushr, 1) := by decide +kernel
theorem d_hs8_165 : decode prog_62_method_2_code 165 = .ok (.ixor, 1) := by decide +kernel
theorem d_hs8_166 : decode prog_62_method_2_code 166 = .ok (.istore_n 1, 1) := by decide +kernel
theorem d_hs8_167 : decode prog_62_method_2_code 167 = .ok (.iload_n 1, 1) := by decide +kernel
theorem d_hs8_168 : decode prog_62_method_2_code 168 = .ok (.ldc 20, 2) := by decide +kernel
theorem d_hs8_170 : decode prog_62_method_2_code 170 = .ok (.imul, 1) := by decide +kernel
theorem d_hs8_171 : decode prog_62_method_2_code 171 = .ok (.istore_n 1, 1) := by decide +kernel
theorem d_hs8_172 : decode prog_62_method_2_code 172 = .ok (.iload_n 1, 1) := by decide +kernel
theorem d_hs8_173 : decode prog_62_method_2_code 173 = .ok (.iload_n 1, 1) := by decide +kernel
theorem d_hs8_174 : decode prog_62_method_2_code 174 = .ok (.bipush 13, 2) := by decide +kernel
theorem d_hs8_176 : decode prog_62_method_2_code 176 = .ok (.iushr, 1) := by decide +kernel
theorem d_hs8_177 : decode prog_62_method_2_code 177 = .ok (.ixor, 1) := by decide +kernel
theorem d_hs8_178 : decode prog_62_method_2_code 178 = .ok (.istore_n 1, 1) := by decide +kernel
theorem d_hs8_179 : decode prog_62_method_2_code 179 = .ok (.iload_n 1, 1) := by decide +kernel
theorem d_hs8_180 : decode prog_62_method_2_code 180 = .ok (.ldc 21, 2) := by decide +kernel
theorem d_hs8_182 : decode prog_62_method_2_code 182 = .ok (.imul, 1) := by decide +kernel
theorem d_hs8_183 : decode prog_62_method_2_code 183 = .ok (.istore_n 1, 1) := by decide +kernel
theorem d_hs8_184 : decode prog_62_method_2_code 184 = .ok (.iload_n 1, 1) := by decide +kernel
theorem d_hs8_185 : decode prog_62_method_2_code 185 = .ok (.iload_n 1, 1) := by decide +kernel
theorem d_hs8_186 : decode prog_62_method_2_code 186 = .ok (.bipush 16, 2) := by decide +kernel
theorem d_hs8_188 : decode prog_62_method_2_code 188 = .ok (.iushr, 1) := by decide +kernel
theorem d_hs8_189 : decode prog_62_method_2_code 189 = .ok (.ixor, 1) := by decide +kernel
theorem d_hs8_190 : decode prog_62_method_2_code 190 = .ok (.ireturn, 1) := by decide +kernel
theorem ef_hs8 (m : MethodId) (a0 : Addr) : entryFrame m #[(.ref a0)] 5 = mkF m 0 #[.val (.ref a0), .unset, .unset, .unset, .unset] [] := by first | (simp [entryFrame, mkF, argsToLocals, Value.category]; done) | rfl
def F_hs8 (u0 : Int32) (u1 : Int32) (u2 : Int32) (u3 : Int32) (u4 : Int32) (u5 : Int32) (u6 : Int32) (u7 : Int32) : Int32 := (((((((((F_rot ((((F_rot ((0 : Int32) ^^^ (F_mix ((((u0 &&& (255 : Int32)) ||| ((u1 &&& (255 : Int32)) <<< ((8 : Int32) &&& 31))) ||| ((u2 &&& (255 : Int32)) <<< ((16 : Int32) &&& 31))) ||| (u3 <<< ((24 : Int32) &&& 31))))) (13 : Int32)) * (5 : Int32)) + (-430675100 : Int32)) ^^^ (F_mix ((((u4 &&& (255 : Int32)) ||| ((u5 &&& (255 : Int32)) <<< ((8 : Int32) &&& 31))) ||| ((u6 &&& (255 : Int32)) <<< ((16 : Int32) &&& 31))) ||| (u7 <<< ((24 : Int32) &&& 31))))) (13 : Int32)) * (5 : Int32)) + (-430675100 : Int32)) ^^^ (8 : Int32)) ^^^ ((((((F_rot ((((F_rot ((0 : Int32) ^^^ (F_mix ((((u0 &&& (255 : Int32)) ||| ((u1 &&& (255 : Int32)) <<< ((8 : Int32) &&& 31))) ||| ((u2 &&& (255 : Int32)) <<< ((16 : Int32) &&& 31))) ||| (u3 <<< ((24 : Int32) &&& 31))))) (13 : Int32)) * (5 : Int32)) + (-430675100 : Int32)) ^^^ (F_mix ((((u4 &&& (255 : Int32)) ||| ((u5 &&& (255 : Int32)) <<< ((8 : Int32) &&& 31))) ||| ((u6 &&& (255 : Int32)) <<< ((16 : Int32) &&& 31))) ||| (u7 <<< ((24 : Int32) &&& 31))))) (13 : Int32)) * (5 : Int32)) + (-430675100 : Int32)) ^^^ (8 : Int32)).toUInt32 >>> ((16 : Int32) &&& 31).toUInt32).toInt32)) * (-2048144789 : Int32)) ^^^ ((((((((F_rot ((((F_rot ((0 : Int32) ^^^ (F_mix ((((u0 &&& (255 : Int32)) ||| ((u1 &&& (255 : Int32)) <<< ((8 : Int32) &&& 31))) ||| ((u2 &&& (255 : Int32)) <<< ((16 : Int32) &&& 31))) ||| (u3 <<< ((24 : Int32) &&& 31))))) (13 : Int32)) * (5 : Int32)) + (-430675100 : Int32)) ^^^ (F_mix ((((u4 &&& (255 : Int32)) ||| ((u5 &&& (255 : Int32)) <<< ((8 : Int32) &&& 31))) ||| ((u6 &&& (255 : Int32)) <<< ((16 : Int32) &&& 31))) ||| (u7 <<< ((24 : Int32) &&& 31))))) (13 : Int32)) * (5 : Int32)) + (-430675100 : Int32)) ^^^ (8 : Int32)) ^^^ ((((((F_rot ((((F_rot ((0 : Int32) ^^^ (F_mix ((((u0 &&& (255 : Int32)) ||| ((u1 &&& (255 : Int32)) <<< ((8 : Int32) &&& 31))) ||| ((u2 &&& (255 : Int32)) <<< ((16 : Int32) &&& 31))) ||| (u3 <<< ((24 : Int32) &&& 31))))) (13 : Int32)) * (5 : Int32)) + (-430675100 : Int32)) ^^^ (F_mix ((((u4 &&& (255 : Int32)) ||| ((u5 &&& (255 : Int32)) <<< ((8 : Int32) &&& 31))) ||| ((u6 &&& (255 : Int32)) <<< ((16 : Int32) &&& 31))) ||| (u7 <<< ((24 : Int32) &&& 31))))) (13 : Int32)) * (5 : Int32)) + (-430675100 : Int32)) ^^^ (8 : Int32)).toUInt32 >>> ((16 : Int32) &&& 31).toUInt32).toInt32)) * (-2048144789 : Int32)).toUInt32 >>> ((13 : Int32) &&& 31).toUInt32).toInt32)) * (-1028477387 : Int32)) ^^^ ((((((((((F_rot ((((F_rot ((0 : Int32) ^^^ (F_mix ((((u0 &&& (255 : Int32)) ||| ((u1 &&& (255 : Int32)) <<< ((8 : Int32) &&& 31))) ||| ((u2 &&& (255 : Int32)) <<< ((16 : Int32) &&& 31))) ||| (u3 <<< ((24 : Int32) &&& 31))))) (13 : Int32)) * (5 : Int32)) + (-430675100 : Int32)) ^^^ (F_mix ((((u4 &&& (255 : Int32)) ||| ((u5 &&& (255 : Int32)) <<< ((8 : Int32) &&& 31))) ||| ((u6 &&& (255 : Int32)) <<< ((16 : Int32) &&& 31))) ||| (u7 <<< ((24 : Int32) &&& 31))))) (13 : Int32)) * (5 : Int32)) + (-430675100 : Int32)) ^^^ (8 : Int32)) ^^^ ((((((F_rot ((((F_rot ((0 : Int32) ^^^ (F_mix ((((u0 &&& (255 : Int32)) ||| ((u1 &&& (255 : Int32)) <<< ((8 : Int32) &&& 31))) ||| ((u2 &&& (255 : Int32)) <<< ((16 : Int32) &&& 31))) ||| (u3 <<< ((24 : Int32) &&& 31))))) (13 : Int32)) * (5 : Int32)) + (-430675100 : Int32)) ^^^ (F_mix ((((u4 &&& (255 : Int32)) ||| ((u5 &&& (255 : Int32)) <<< ((8 : Int32) &&& 31))) ||| ((u6 &&& (255 : Int32)) <<< ((16 : Int32) &&& 31))) ||| (u7 <<< ((24 : Int32) &&& 31))))) (13 : Int32)) * (5 : Int32)) + (-430675100 : Int32)) ^^^ (8 : Int32)).toUInt32 >>> ((16 : Int32) &&& 31).toUInt32).toInt32)) * (-2048144789 : Int32)) ^^^ ((((((((F_rot ((((F_rot ((0 : Int32) ^^^ (F_mix ((((u0 &&& (255 : Int32)) ||| ((u1 &&& (255 : Int32)) <<< ((8 : Int32) &&& 31))) ||| ((u2 &&& (255 : Int32)) <<< ((16 : Int32) &&& 31))) ||| (u3 <<< ((24 : Int32) &&& 31))))) (13 : Int32)) * (5 : Int32)) + (-430675100 : Int32)) ^^^ (F_mix ((((u4 &&& (255 : Int32)) ||| ((u5 &&& (255 : Int32)) <<< ((8 : Int32) &&& 31))) ||| ((u6 &&& (255 : Int32)) <<< ((16 : Int32) &&& 31))) ||| (u7 <<< ((24 : Int32) &&& 31))))) (13 : Int32)) * (5 : Int32)) + (-430675100 : Int32)) ^^^ (8 : Int32)) ^^^ ((((((F_rot ((((F_rot ((0 : Int32) ^^^ (F_mix ((((u0 &&& (255 : Int32)) ||| ((u1 &&& (255 : Int32)) <<< ((8 : Int32) &&& 31))) ||| ((u2 &&& (255 : Int32)) <<< ((16 : Int32) &&& 31))) ||| (u3 <<< ((24 : Int32) &&& 31))))) (13 : Int32)) * (5 : Int32)) + (-430675100 : Int32)) ^^^ (F_mix ((((u4 &&& (255 : Int32)) ||| ((u5 &&& (255 : Int32)) <<< ((8 : Int32) &&& 31))) ||| ((u6 &&& (255 : Int32)) <<< ((16 : Int32) &&& 31))) ||| (u7 <<< ((24 : Int32) &&& 31))))) (13 : Int32)) * (5 : Int32)) + (-430675100 : Int32)) ^^^ (8 : Int32)).toUInt32 >>> ((16 : Int32) &&& 31).toUInt32).toInt32)) * (-2048144789 : Int32)).toUInt32 >>> ((13 : Int32) &&& 31).toUInt32).toInt32)) * (-1028477387 : Int32)).toUInt32 >>> ((16 : Int32) &&& 31).toUInt32).toInt32))
def Q_hs8 (Z : State) (a0 : Addr) (kk : ClassId) (u0 : Int32) (u1 : Int32) (u2 : Int32) (u3 : Int32) (u4 : Int32) (u5 : Int32) (u6 : Int32) (u7 : Int32) (h0 : Heap) (n0 : Nat) (v : Option Value) (h : Heap) (L : List Loc) : Prop := v = some (.int (F_hs8 u0 u1 u2 u3 u4 u5 u6 u7)) ∧ Fr n0 L ∧ h = h0
set_option maxRecDepth 65536 in
set_option maxHeartbeats 40000000 in
theorem rm_hs8 (l : Launch) (Z : State) (aT : Array Value) (hw : ∀ d ∈ tables_1, d.before aT Z = true) (ws : List Jvm.Cond) (a0 : Addr) (kk : ClassId) (u0 : Int32) (u1 : Int32) (u2 : Int32) (u3 : Int32) (u4 : Int32) (u5 : Int32) (u6 : Int32) (u7 : Int32) (h0 : Heap) (n0 : Nat) (Z0 : n0 ≤ h0.size) (hp0 : Arv Z h0 a0 kk .byte (8 : Int32) [(.int u0), (.int u1), (.int u2), (.int u3), (.int u4), (.int u5), (.int u6), (.int u7)] (.int (0 : Int32))) :
    MetFree l (⟨"com/example/farshard/farshard/store/Murmur3", "hash32", "([B)I"⟩ : MethodName) (head1 (Jvm.Cond.code (⟨"com/example/farshard/farshard/store/Murmur3", "hash32", "([B)I"⟩ : MethodName) prog_62_method_2_code 5 (some .int) :: ws) ({ frames := 2, cells := 0, slots := 0, locals := 26 } : Room)) (fun a U => a = #[(.ref a0)] ∧ Z.Warmed39 U.vm ∧ U.heap = h0) (fun _ _ _ _ _ => True) (fun _ U o U' => ∃ v L, o = .returned v ∧ Q_hs8 Z a0 kk u0 u1 u2 u3 u4 u5 u6 u7 h0 n0 v U'.heap L ∧ FrameEnd U o U' L ({ frames := 2, cells := 0, slots := 0, locals := 26 } : Room).cells ({ frames := 2, cells := 0, slots := 0, locals := 26 } : Room).slots) := by
  refine MetFree.of_bodySF (plainFor_of_name pn1) hisR ?_
  intro p e s m args below meth c s₁ Bd hml0 hP hK
  obtain ⟨rfl, hZ, hh⟩ := hP
  have hx := Bd.exec
  have hby := Bd.bytes
  have hml : c.maxLocals = 5 := hml0
  have hown : s.vm.findClass "com/example/farshard/farshard/store/Murmur3" = some m.cls := findClass_of_methodNamed Bd.named
  have hnm := (name_of_methodNamed Bd.named Bd.method).1
  have hlk := Bd.notSynchronized
  have hrt := Bd.returns
  have X0 : Stand p l e ({ frames := 2, cells := 0, slots := 0, locals := 26 } : Room) s m #[(.ref a0)] below meth c s₁ [] 0 0 := Stand.of_body Bd
  have e0 : s₁.heap = h0 := by rw [← hh, Bd.state]; rfl
  have N0 := Fr.nil n0
  refine own_cast (P := own_End s (Q_hs8 Z a0 kk u0 u1 u2 u3 u4 u5 u6 u7 h0 n0) ({ frames := 2, cells := 0, slots := 0, locals := 26 } : Room).cells ({ frames := 2, cells := 0, slots := 0, locals := 26 } : Room).slots) (ef_hs8 m a0) ?_
  refine g_iconst X0 hx hby (0 : Int32) d_hs8_0 (by decide) (rfl : 0 + 1 = 1) ?_
  refine g_istoreN X0 hx hby #[.val (.ref a0), .val (.int (0 : Int32)), .unset, .unset, .unset] d_hs8_1 rfl (rfl : 1 + 1 = 2) ?_
  refine g_aloadN X0 hx hby d_hs8_2 rfl rfl (rfl : 2 + 1 = 3) ?_
  refine g_alen X0 hx hby hZ e0 hp0 d_hs8_3 (rfl : 3 + 1 = 4) ?_
  refine g_bipush X0 hx hby (-4 : Int32) d_hs8_4 (by decide) (rfl : 4 + 2 = 6) ?_
  refine g_iand X0 hx hby d_hs8_6 (rfl : 6 + 1 = 7) ?_
  rw [(by decide : ((8 : Int32) &&& (-4 : Int32)) = (8 : Int32))]
  refine g_istoreN X0 hx hby #[.val (.ref a0), .val (.int (0 : Int32)), .val (.int (8 : Int32)), .unset, .unset] d_hs8_7 rfl (rfl : 7 + 1 = 8) ?_
  refine g_iconst X0 hx hby (0 : Int32) d_hs8_8 (by decide) (rfl : 8 + 1 = 9) ?_
  refine g_istoreN X0 hx hby #[.val (.ref a0), .val (.int (0 : Int32)), .val (.int (8 : Int32)), .val (.int (0 : Int32)), .unset] d_hs8_9 rfl (rfl : 9 + 1 = 10) ?_
  refine g_iloadN X0 hx hby d_hs8_10 rfl (rfl : 10 + 1 = 11) ?_
  refine g_iloadN X0 hx hby d_hs8_11 rfl (rfl : 11 + 1 = 12) ?_
  refine g_icF X0 hx hby d_hs8_12 (tlt (by decide : (0 : Int32) < (8 : Int32))).2.1 (rfl : 12 + 3 = 15) ?_
  refine g_aloadN X0 hx hby d_hs8_15 rfl rfl (rfl : 15 + 1 = 16) ?_
  refine g_iloadN X0 hx hby d_hs8_16 rfl (rfl : 16 + 1 = 17) ?_
  refine g_baload X0 hx hby hZ e0 (v := (.int u0)) hp0 ⟨by decide, by decide⟩ rfl d_hs8_17 (rfl : 17 + 1 = 18) ?_
  refine g_sipush X0 hx hby (255 : Int32) d_hs8_18 (by decide) (rfl : 18 + 3 = 21) ?_
  refine g_iand X0 hx hby d_hs8_21 (rfl : 21 + 1 = 22) ?_
  refine g_aloadN X0 hx hby d_hs8_22 rfl rfl (rfl : 22 + 1 = 23) ?_
  refine g_iloadN X0 hx hby d_hs8_23 rfl (rfl : 23 + 1 = 24) ?_
  refine g_iconst X0 hx hby (1 : Int32) d_hs8_24 (by decide) (rfl : 24 + 1 = 25) ?_
  refine g_iadd X0 hx hby d_hs8_25 (rfl : 25 + 1 = 26) ?_
  rw [(by decide : ((0 : Int32) + (1 : Int32)) = (1 : Int32))]
  refine g_baload X0 hx hby hZ e0 (v := (.int u1)) hp0 ⟨by decide, by decide⟩ rfl d_hs8_26 (rfl : 26 + 1 = 27) ?_
  refine g_sipush X0 hx hby (255 : Int32) d_hs8_27 (by decide) (rfl : 27 + 3 = 30) ?_
  refine g_iand X0 hx hby d_hs8_30 (rfl : 30 + 1 = 31) ?_
  refine g_bipush X0 hx hby (8 : Int32) d_hs8_31 (by decide) (rfl : 31 + 2 = 33) ?_
  refine g_ishl X0 hx hby d_hs8_33 (rfl : 33 + 1 = 34) ?_
  refine g_ior X0 hx hby d_hs8_34 (rfl : 34 + 1 = 35) ?_
  refine g_aloadN X0 hx hby d_hs8_35 rfl rfl (rfl : 35 + 1 = 36) ?_
  refine g_iloadN X0 hx hby d_hs8_36 rfl (rfl : 36 + 1 = 37) ?_
  refine g_iconst X0 hx hby (2 : Int32) d_hs8_37 (by decide) (rfl : 37 + 1 = 38) ?_
  refine g_iadd X0 hx hby d_hs8_38 (rfl : 38 + 1 = 39) ?_
  rw [(by decide : ((0 : Int32) + (2 : Int32)) = (2 : Int32))]
  refine g_baload X0 hx hby hZ e0 (v := (.int u2)) hp0 ⟨by decide, by decide⟩ rfl d_hs8_39 (rfl : 39 + 1 = 40) ?_
  refine g_sipush X0 hx hby (255 : Int32) d_hs8_40 (by decide) (rfl : 40 + 3 = 43) ?_
  refine g_iand X0 hx hby d_hs8_43 (rfl : 43 + 1 = 44) ?_
  refine g_bipush X0 hx hby (16 : Int32) d_hs8_44 (by decide) (rfl : 44 + 2 = 46) ?_
  refine g_ishl X0 hx hby d_hs8_46 (rfl : 46 + 1 = 47) ?_
  refine g_ior X0 hx hby d_hs8_47 (rfl : 47 + 1 = 48) ?_
  refine g_aloadN X0 hx hby d_hs8_48 rfl rfl (rfl : 48 + 1 = 49) ?_
  refine g_iloadN X0 hx hby d_hs8_49 rfl (rfl : 49 + 1 = 50) ?_
  refine g_iconst X0 hx hby (3 : Int32) d_hs8_50 (by decide) (rfl : 50 + 1 = 51) ?_
  refine g_iadd X0 hx hby d_hs8_51 (rfl : 51 + 1 = 52) ?_
  rw [(by decide : ((0 : Int32) + (3 : Int32)) = (3 : Int32))]
  refine g_baload X0 hx hby hZ e0 (v := (.int u3)) hp0 ⟨by decide, by decide⟩ rfl d_hs8_52 (rfl : 52 + 1 = 53) ?_
  refine g_bipush X0 hx hby (24 : Int32) d_hs8_53 (by decide) (rfl : 53 + 2 = 55) ?_
  refine g_ishl X0 hx hby d_hs8_55 (rfl : 55 + 1 = 56) ?_
  refine g_ior X0 hx hby d_hs8_56 (rfl : 56 + 1 = 57) ?_
  refine g_istore X0 hx hby #[.val (.ref a0), .val (.int (0 : Int32)), .val (.int (8 : Int32)), .val (.int (0 : Int32)), .val (.int ((((u0 &&& (255 : Int32)) ||| ((u1 &&& (255 : Int32)) <<< ((8 : Int32) &&& 31))) ||| ((u2 &&& (255 : Int32)) <<< ((16 : Int32) &&& 31))) ||| (u3 <<< ((24 : Int32) &&& 31))))] d_hs8_57 rfl (rfl : 57 + 2 = 59) ?_
  refine g_iloadN X0 hx hby d_hs8_59 rfl (rfl : 59 + 1 = 60) ?_
  refine g_iload X0 hx hby d_hs8_60 rfl (rfl : 60 + 2 = 62) ?_
  obtain ⟨_, _, ⟨T21, L21, k21, n21⟩, -, X21, ⟨Lc21, hQ21, l21, y21, z21⟩, st21⟩ := Jvm.LawKit.callS X0 hx (y := (⟨"com/example/farshard/farshard/store/Murmur3", "mixBlock", "(I)I"⟩ : MethodName)) hown (mvT hZ (hw _ (List.mem_of_getElem? (i := 17) rfl))) (mvT hZ (hw _ (List.mem_of_getElem? (i := 18) rfl))) (mvT hZ (hw _ (List.mem_of_getElem? (i := 4) rfl))) (mvT hZ (hw _ (List.mem_of_getElem? (i := 19) rfl))) (by decide) (backOf (W := 1) (rm_mix l Z aT hw [] ((((u0 &&& (255 : Int32)) ||| ((u1 &&& (255 : Int32)) <<< ((8 : Int32) &&& 31))) ||| ((u2 &&& (255 : Int32)) <<< ((16 : Int32) &&& 31))) ||| (u3 <<< ((24 : Int32) &&& 31))) h0 n0 Z0) hZ (hw _ (List.mem_of_getElem? (i := 19) rfl)) (hw _ (List.mem_of_getElem? (i := 4) rfl)) (by decide) (by decide)) (g := (mkF m 62 #[.val (.ref a0), .val (.int (0 : Int32)), .val (.int (8 : Int32)), .val (.int (0 : Int32)), .val (.int ((((u0 &&& (255 : Int32)) ||| ((u1 &&& (255 : Int32)) <<< ((8 : Int32) &&& 31))) ||| ((u2 &&& (255 : Int32)) <<< ((16 : Int32) &&& 31))) ||| (u3 <<< ((24 : Int32) &&& 31))))] [(.int ((((u0 &&& (255 : Int32)) ||| ((u1 &&& (255 : Int32)) <<< ((8 : Int32) &&& 31))) ||| ((u2 &&& (255 : Int32)) <<< ((16 : Int32) &&& 31))) ||| (u3 <<< ((24 : Int32) &&& 31)))), (.int (0 : Int32))])) rfl (by rw [hml]; rfl) (argsL := [(.int ((((u0 &&& (255 : Int32)) ||| ((u1 &&& (255 : Int32)) <<< ((8 : Int32) &&& 31))) ||| ((u2 &&& (255 : Int32)) <<< ((16 : Int32) &&& 31))) ||| (u3 <<< ((24 : Int32) &&& 31))))]) (rest := [(.int (0 : Int32))]) (lenOf pd1 rfl) rfl (by show 2 * 0 + _ ≤ _; exact Nat.le_of_eq rfl) (hb hby d_hs8_62) (fun _ _ => ⟨rfl, e0, (by decide : 0 + 0 ≤ _), (by decide : 0 + 0 ≤ _)⟩)
  dsimp only [Pt.U, Pt.locs, Pt.cells, Pt.slots] at X21 l21 y21 z21 st21 hQ21
  subst l21 y21 z21
  obtain ⟨rfl, N21q, eq21⟩ := hQ21
  have N21 := Fr.app N0 N21q
  refine own_go st21 ?_
  show own_Got p e below _ T21 (mkF m 65 #[.val (.ref a0), .val (.int (0 : Int32)), .val (.int (8 : Int32)), .val (.int (0 : Int32)), .val (.int ((((u0 &&& (255 : Int32)) ||| ((u1 &&& (255 : Int32)) <<< ((8 : Int32) &&& 31))) ||| ((u2 &&& (255 : Int32)) <<< ((16 : Int32) &&& 31))) ||| (u3 <<< ((24 : Int32) &&& 31))))] [(.int (F_mix ((((u0 &&& (255 : Int32)) ||| ((u1 &&& (255 : Int32)) <<< ((8 : Int32) &&& 31))) ||| ((u2 &&& (255 : Int32)) <<< ((16 : Int32) &&& 31))) ||| (u3 <<< ((24 : Int32) &&& 31))))), (.int (0 : Int32))])
  refine g_ixor X21 hx hby d_hs8_65 (rfl : 65 + 1 = 66) ?_
  refine g_istoreN X21 hx hby #[.val (.ref a0), .val (.int ((0 : Int32) ^^^ (F_mix ((((u0 &&& (255 : Int32)) ||| ((u1 &&& (255 : Int32)) <<< ((8 : Int32) &&& 31))) ||| ((u2 &&& (255 : Int32)) <<< ((16 : Int32) &&& 31))) ||| (u3 <<< ((24 : Int32) &&& 31)))))), .val (.int (8 : Int32)), .val (.int (0 : Int32)), .val (.int ((((u0 &&& (255 : Int32)) ||| ((u1 &&& (255 : Int32)) <<< ((8 : Int32) &&& 31))) ||| ((u2 &&& (255 : Int32)) <<< ((16 : Int32) &&& 31))) ||| (u3 <<< ((24 : Int32) &&& 31))))] d_hs8_66 rfl (rfl : 66 + 1 = 67) ?_
  refine g_iloadN X21 hx hby d_hs8_67 rfl (rfl : 67 + 1 = 68) ?_
  refine g_bipush X21 hx hby (13 : Int32) d_hs8_68 (by decide) (rfl : 68 + 2 = 70) ?_
  obtain ⟨_, _, ⟨T22, L22, k22, n22⟩, -, X22, ⟨Lc22, hQ22, l22, y22, z22⟩, st22⟩ := Jvm.LawKit.callS X21 hx (y := (⟨"java/lang/Integer", "rotateLeft", "(II)I"⟩ : MethodName)) hown (mvT hZ (hw _ (List.mem_of_getElem? (i := 21) rfl))) (mvT hZ (hw _ (List.mem_of_getElem? (i := 22) rfl))) (mvT hZ (hw _ (List.mem_of_getElem? (i := 23) rfl))) (mvT hZ (hw _ (List.mem_of_getElem? (i := 24) rfl))) (by decide) (backOf (W := 0) (rm_rot l Z aT hw [] ((0 : Int32) ^^^ (F_mix ((((u0 &&& (255 : Int32)) ||| ((u1 &&& (255 : Int32)) <<< ((8 : Int32) &&& 31))) ||| ((u2 &&& (255 : Int32)) <<< ((16 : Int32) &&& 31))) ||| (u3 <<< ((24 : Int32) &&& 31))))) (13 : Int32) h0 n0 Z0) hZ (hw _ (List.mem_of_getElem? (i := 24) rfl)) (hw _ (List.mem_of_getElem? (i := 23) rfl)) (by decide) (by decide)) (g := (mkF m 70 #[.val (.ref a0), .val (.int ((0 : Int32) ^^^ (F_mix ((((u0 &&& (255 : Int32)) ||| ((u1 &&& (255 : Int32)) <<< ((8 : Int32) &&& 31))) ||| ((u2 &&& (255 : Int32)) <<< ((16 : Int32) &&& 31))) ||| (u3 <<< ((24 : Int32) &&& 31)))))), .val (.int (8 : Int32)), .val (.int (0 : Int32)), .val (.int ((((u0 &&& (255 : Int32)) ||| ((u1 &&& (255 : Int32)) <<< ((8 : Int32) &&& 31))) ||| ((u2 &&& (255 : Int32)) <<< ((16 : Int32) &&& 31))) ||| (u3 <<< ((24 : Int32) &&& 31))))] [(.int (13 : Int32)), (.int ((0 : Int32) ^^^ (F_mix ((((u0 &&& (255 : Int32)) ||| ((u1 &&& (255 : Int32)) <<< ((8 : Int32) &&& 31))) ||| ((u2 &&& (255 : Int32)) <<< ((16 : Int32) &&& 31))) ||| (u3 <<< ((24 : Int32) &&& 31))))))])) rfl (by rw [hml]; rfl) (argsL := [(.int ((0 : Int32) ^^^ (F_mix ((((u0 &&& (255 : Int32)) ||| ((u1 &&& (255 : Int32)) <<< ((8 : Int32) &&& 31))) ||| ((u2 &&& (255 : Int32)) <<< ((16 : Int32) &&& 31))) ||| (u3 <<< ((24 : Int32) &&& 31)))))), (.int (13 : Int32))]) (rest := []) (lenOf pd0 rfl) rfl (by show 2 * 0 + _ ≤ _; exact Nat.le_of_eq rfl) (hb hby d_hs8_70) (fun _ _ => ⟨rfl, eq21, (by decide : 0 + 0 ≤ _), (by decide : 0 + 0 ≤ _)⟩)
  dsimp only [Pt.U, Pt.locs, Pt.cells, Pt.slots] at X22 l22 y22 z22 st22 hQ22
  subst l22 y22 z22
  obtain ⟨rfl, N22q, eq22⟩ := hQ22
  have N22 := Fr.app N21 N22q
  refine own_go st22 ?_
  show own_Got p e below _ T22 (mkF m 73 #[.val (.ref a0), .val (.int ((0 : Int32) ^^^ (F_mix ((((u0 &&& (255 : Int32)) ||| ((u1 &&& (255 : Int32)) <<< ((8 : Int32) &&& 31))) ||| ((u2 &&& (255 : Int32)) <<< ((16 : Int32) &&& 31))) ||| (u3 <<< ((24 : Int32) &&& 31)))))), .val (.int (8 : Int32)), .val (.int (0 : Int32)), .val (.int ((((u0 &&& (255 : Int32)) ||| ((u1 &&& (255 : Int32)) <<< ((8 : Int32) &&& 31))) ||| ((u2 &&& (255 : Int32)) <<< ((16 : Int32) &&& 31))) ||| (u3 <<< ((24 : Int32) &&& 31))))] [(.int (F_rot ((0 : Int32) ^^^ (F_mix ((((u0 &&& (255 : Int32)) ||| ((u1 &&& (255 : Int32)) <<< ((8 : Int32) &&& 31))) ||| ((u2 &&& (255 : Int32)) <<< ((16 : Int32) &&& 31))) ||| (u3 <<< ((24 : Int32) &&& 31))))) (13 : Int32)))])
  refine g_iconst X22 hx hby (5 : Int32) d_hs8_73 (by decide) (rfl : 73 + 1 = 74) ?_
  refine g_imul X22 hx hby d_hs8_74 (rfl : 74 + 1 = 75) ?_
  refine g_ldcI X22 hx hby hZ hown (hw _ (List.mem_of_getElem? (i := 31) rfl)) d_hs8_75 (rfl : 75 + 2 = 77) ?_
  refine g_iadd X22 hx hby d_hs8_77 (rfl : 77 + 1 = 78) ?_
  refine g_istoreN X22 hx hby #[.val (.ref a0), .val (.int (((F_rot ((0 : Int32) ^^^ (F_mix ((((u0 &&& (255 : Int32)) ||| ((u1 &&& (255 : Int32)) <<< ((8 : Int32) &&& 31))) ||| ((u2 &&& (255 : Int32)) <<< ((16 : Int32) &&& 31))) ||| (u3 <<< ((24 : Int32) &&& 31))))) (13 : Int32)) * (5 : Int32)) + (-430675100 : Int32))), .val (.int (8 : Int32)), .val (.int (0 : Int32)), .val (.int ((((u0 &&& (255 : Int32)) ||| ((u1 &&& (255 : Int32)) <<< ((8 : Int32) &&& 31))) ||| ((u2 &&& (255 : Int32)) <<< ((16 : Int32) &&& 31))) ||| (u3 <<< ((24 : Int32) &&& 31))))] d_hs8_78 rfl (rfl : 78 + 1 = 79) ?_
  refine g_iinc X22 hx hby #[.val (.ref a0), .val (.int (((F_rot ((0 : Int32) ^^^ (F_mix ((((u0 &&& (255 : Int32)) ||| ((u1 &&& (255 : Int32)) <<< ((8 : Int32) &&& 31))) ||| ((u2 &&& (255 : Int32)) <<< ((16 : Int32) &&& 31))) ||| (u3 <<< ((24 : Int32) &&& 31))))) (13 : Int32)) * (5 : Int32)) + (-430675100 : Int32))), .val (.int (8 : Int32)), .val (.int ((0 : Int32) + (4 : Int32))), .val (.int ((((u0 &&& (255 : Int32)) ||| ((u1 &&& (255 : Int32)) <<< ((8 : Int32) &&& 31))) ||| ((u2 &&& (255 : Int32)) <<< ((16 : Int32) &&& 31))) ||| (u3 <<< ((24 : Int32) &&& 31))))] d_hs8_79 rfl rfl (rfl : 79 + 3 = 82) ?_
  rw [(by decide : ((0 : Int32) + (4 : Int32)) = (4 : Int32))]
  refine g_goto X22 hx hby d_hs8_82 (by decide) (pc' := 10) (by decide) ?_
  refine g_iloadN X22 hx hby d_hs8_10 rfl (rfl : 10 + 1 = 11) ?_
  refine g_iloadN X22 hx hby d_hs8_11 rfl (rfl : 11 + 1 = 12) ?_
  refine g_icF X22 hx hby d_hs8_12 (tlt (by decide : (4 : Int32) < (8 : Int32))).2.1 (rfl : 12 + 3 = 15) ?_
  refine g_aloadN X22 hx hby d_hs8_15 rfl rfl (rfl : 15 + 1 = 16) ?_
  refine g_iloadN X22 hx hby d_hs8_16 rfl (rfl : 16 + 1 = 17) ?_
  refine g_baload X22 hx hby hZ eq22 (v := (.int u4)) hp0 ⟨by decide, by decide⟩ rfl d_hs8_17 (rfl : 17 + 1 = 18) ?_
  refine g_sipush X22 hx hby (255 : Int32) d_hs8_18 (by decide) (rfl : 18 + 3 = 21) ?_
  refine g_iand X22 hx hby d_hs8_21 (rfl : 21 + 1 = 22) ?_
  refine g_aloadN X22 hx hby d_hs8_22 rfl rfl (rfl : 22 + 1 = 23) ?_
  refine g_iloadN X22 hx hby d_hs8_23 rfl (rfl : 23 + 1 = 24) ?_
  refine g_iconst X22 hx hby (1 : Int32) d_hs8_24 (by decide) (rfl : 24 + 1 = 25) ?_
  refine g_iadd X22 hx hby d_hs8_25 (rfl : 25 + 1 = 26) ?_
  rw [(by decide : ((4 : Int32) + (1 : Int32)) = (5 : Int32))]
  refine g_baload X22 hx hby hZ eq22 (v := (.int u5)) hp0 ⟨by decide, by decide⟩ rfl d_hs8_26 (rfl : 26 + 1 = 27) ?_
  refine g_sipush X22 hx hby (255 : Int32) d_hs8_27 (by decide) (rfl : 27 + 3 = 30) ?_
  refine g_iand X22 hx hby d_hs8_30 (rfl : 30 + 1 = 31) ?_
  refine g_bipush X22 hx hby (8 : Int32) d_hs8_31 (by decide) (rfl : 31 + 2 = 33) ?_
  refine g_ishl X22 hx hby d_hs8_33 (rfl : 33 + 1 = 34) ?_
  refine g_ior X22 hx hby d_hs8_34 (rfl : 34 + 1 = 35) ?_
  refine g_aloadN X22 hx hby d_hs8_35 rfl rfl (rfl : 35 + 1 = 36) ?_
  refine g_iloadN X22 hx hby d_hs8_36 rfl (rfl : 36 + 1 = 37) ?_
  refine g_iconst X22 hx hby (2 : Int32) d_hs8_37 (by decide) (rfl : 37 + 1 = 38) ?_
  refine g_iadd X22 hx hby d_hs8_38 (rfl : 38 + 1 = 39) ?_
  rw [(by decide : ((4 : Int32) + (2 : Int32)) = (6 : Int32))]
  refine g_baload X22 hx hby hZ eq22 (v := (.int u6)) hp0 ⟨by decide, by decide⟩ rfl d_hs8_39 (rfl : 39 + 1 = 40) ?_
  refine g_sipush X22 hx hby (255 : Int32) d_hs8_40 (by decide) (rfl : 40 + 3 = 43) ?_
  refine g_iand X22 hx hby d_hs8_43 (rfl : 43 + 1 = 44) ?_
  refine g_bipush X22 hx hby (16 : Int32) d_hs8_44 (by decide) (rfl : 44 + 2 = 46) ?_
  refine g_ishl X22 hx hby d_hs8_46 (rfl : 46 + 1 = 47) ?_
  refine g_ior X22 hx hby d_hs8_47 (rfl : 47 + 1 = 48) ?_
  refine g_aloadN X22 hx hby d_hs8_48 rfl rfl (rfl : 48 + 1 = 49) ?_
  refine g_iloadN X22 hx hby d_hs8_49 rfl (rfl : 49 + 1 = 50) ?_
  refine g_iconst X22 hx hby (3 : Int32) d_hs8_50 (by decide) (rfl : 50 + 1 = 51) ?_
  refine g_iadd X22 hx hby d_hs8_51 (rfl : 51 + 1 = 52) ?_
  rw [(by decide : ((4 : Int32) + (3 : Int32)) = (7 : Int32))]
  refine g_baload X22 hx hby hZ eq22 (v := (.int u7)) hp0 ⟨by decide, by decide⟩ rfl d_hs8_52 (rfl : 52 + 1 = 53) ?_
  refine g_bipush X22 hx hby (24 : Int32) d_hs8_53 (by decide) (rfl : 53 + 2 = 55) ?_
  refine g_ishl X22 hx hby d_hs8_55 (rfl : 55 + 1 = 56) ?_
  refine g_ior X22 hx hby d_hs8_56 (rfl : 56 + 1 = 57) ?_
  refine g_istore X22 hx hby #[.val (.ref a0), .val (.int (((F_rot ((0 : Int32) ^^^ (F_mix ((((u0 &&& (255 : Int32)) ||| ((u1 &&& (255 : Int32)) <<< ((8 : Int32) &&& 31))) ||| ((u2 &&& (255 : Int32)) <<< ((16 : Int32) &&& 31))) ||| (u3 <<< ((24 : Int32) &&& 31))))) (13 : Int32)) * (5 : Int32)) + (-430675100 : Int32))), .val (.int (8 : Int32)), .val (.int (4 : Int32)), .val (.int ((((u4 &&& (255 : Int32)) ||| ((u5 &&& (255 : Int32)) <<< ((8 : Int32) &&& 31))) ||| ((u6 &&& (255 : Int32)) <<< ((16 : Int32) &&& 31))) ||| (u7 <<< ((24 : Int32) &&& 31))))] d_hs8_57 rfl (rfl : 57 + 2 = 59) ?_
  refine g_iloadN X22 hx hby d_hs8_59 rfl (rfl : 59 + 1 = 60) ?_
  refine g_iload X22 hx hby d_hs8_60 rfl (rfl : 60 + 2 = 62) ?_
  obtain ⟨_, _, ⟨T23, L23, k23, n23⟩, -, X23, ⟨Lc23, hQ23, l23, y23, z23⟩, st23⟩ := Jvm.LawKit.callS X22 hx (y := (⟨"com/example/farshard/farshard/store/Murmur3", "mixBlock", "(I)I"⟩ : MethodName)) hown (mvT hZ (hw _ (List.mem_of_getElem? (i := 17) rfl))) (mvT hZ (hw _ (List.mem_of_getElem? (i := 18) rfl))) (mvT hZ (hw _ (List.mem_of_getElem? (i := 4) rfl))) (mvT hZ (hw _ (List.mem_of_getElem? (i := 19) rfl))) (by decide) (backOf (W := 1) (rm_mix l Z aT hw [] ((((u4 &&& (255 : Int32)) ||| ((u5 &&& (255 : Int32)) <<< ((8 : Int32) &&& 31))) ||| ((u6 &&& (255 : Int32)) <<< ((16 : Int32) &&& 31))) ||| (u7 <<< ((24 : Int32) &&& 31))) h0 n0 Z0) hZ (hw _ (List.mem_of_getElem? (i := 19) rfl)) (hw _ (List.mem_of_getElem? (i := 4) rfl)) (by decide) (by decide)) (g := (mkF m 62 #[.val (.ref a0), .val (.int (((F_rot ((0 : Int32) ^^^ (F_mix ((((u0 &&& (255 : Int32)) ||| ((u1 &&& (255 : Int32)) <<< ((8 : Int32) &&& 31))) ||| ((u2 &&& (255 : Int32)) <<< ((16 : Int32) &&& 31))) ||| (u3 <<< ((24 : Int32) &&& 31))))) (13 : Int32)) * (5 : Int32)) + (-430675100 : Int32))), .val (.int (8 : Int32)), .val (.int (4 : Int32)), .val (.int ((((u4 &&& (255 : Int32)) ||| ((u5 &&& (255 : Int32)) <<< ((8 : Int32) &&& 31))) ||| ((u6 &&& (255 : Int32)) <<< ((16 : Int32) &&& 31))) ||| (u7 <<< ((24 : Int32) &&& 31))))] [(.int ((((u4 &&& (255 : Int32)) ||| ((u5 &&& (255 : Int32)) <<< ((8 : Int32) &&& 31))) ||| ((u6 &&& (255 : Int32)) <<< ((16 : Int32) &&& 31))) ||| (u7 <<< ((24 : Int32) &&& 31)))), (.int (((F_rot ((0 : Int32) ^^^ (F_mix ((((u0 &&& (255 : Int32)) ||| ((u1 &&& (255 : Int32)) <<< ((8 : Int32) &&& 31))) ||| ((u2 &&& (255 : Int32)) <<< ((16 : Int32) &&& 31))) ||| (u3 <<< ((24 : Int32) &&& 31))))) (13 : Int32)) * (5 : Int32)) + (-430675100 : Int32)))])) rfl (by rw [hml]; rfl) (argsL := [(.int ((((u4 &&& (255 : Int32)) ||| ((u5 &&& (255 : Int32)) <<< ((8 : Int32) &&& 31))) ||| ((u6 &&& (255 : Int32)) <<< ((16 : Int32) &&& 31))) ||| (u7 <<< ((24 : Int32) &&& 31))))]) (rest := [(.int (((F_rot ((0 : Int32) ^^^ (F_mix ((((u0 &&& (255 : Int32)) ||| ((u1 &&& (255 : Int32)) <<< ((8 : Int32) &&& 31))) ||| ((u2 &&& (255 : Int32)) <<< ((16 : Int32) &&& 31))) ||| (u3 <<< ((24 : Int32) &&& 31))))) (13 : Int32)) * (5 : Int32)) + (-430675100 : Int32)))]) (lenOf pd1 rfl) rfl (by show 2 * 0 + _ ≤ _; exact Nat.le_of_eq rfl) (hb hby d_hs8_62) (fun _ _ => ⟨rfl, eq22, (by decide : 0 + 0 ≤ _), (by decide : 0 + 0 ≤ _)⟩)
  dsimp only [Pt.U, Pt.locs, Pt.cells, Pt.slots] at X23 l23 y23 z23 st23 hQ23
  subst l23 y23 z23
  obtain ⟨rfl, N23q, eq23⟩ := hQ23
  have N23 := Fr.app N22 N23q
  refine own_go st23 ?_
  show own_Got p e below _ T23 (mkF m 65 #[.val (.ref a0), .val (.int (((F_rot ((0 : Int32) ^^^ (F_mix ((((u0 &&& (255 : Int32)) ||| ((u1 &&& (255 : Int32)) <<< ((8 : Int32) &&& 31))) ||| ((u2 &&& (255 : Int32)) <<< ((16 : Int32) &&& 31))) ||| (u3 <<< ((24 : Int32) &&& 31))))) (13 : Int32)) * (5 : Int32)) + (-430675100 : Int32))), .val (.int (8 : Int32)), .val (.int (4 : Int32)), .val (.int ((((u4 &&& (255 : Int32)) ||| ((u5 &&& (255 : Int32)) <<< ((8 : Int32) &&& 31))) ||| ((u6 &&& (255 : Int32)) <<< ((16 : Int32) &&& 31))) ||| (u7 <<< ((24 : Int32) &&& 31))))] [(.int (F_mix ((((u4 &&& (255 : Int32)) ||| ((u5 &&& (255 : Int32)) <<< ((8 : Int32) &&& 31))) ||| ((u6 &&& (255 : Int32)) <<< ((16 : Int32) &&& 31))) ||| (u7 <<< ((24 : Int32) &&& 31))))), (.int (((F_rot ((0 : Int32) ^^^ (F_mix ((((u0 &&& (255 : Int32)) ||| ((u1 &&& (255 : Int32)) <<< ((8 : Int32) &&& 31))) ||| ((u2 &&& (255 : Int32)) <<< ((16 : Int32) &&& 31))) ||| (u3 <<< ((24 : Int32) &&& 31))))) (13 : Int32)) * (5 : Int32)) + (-430675100 : Int32)))])
  refine g_ixor X23 hx hby d_hs8_65 (rfl : 65 + 1 = 66) ?_
  refine g_istoreN X23 hx hby #[.val (.ref a0), .val (.int ((((F_rot ((0 : Int32) ^^^ (F_mix ((((u0 &&& (255 : Int32)) ||| ((u1 &&& (255 : Int32)) <<< ((8 : Int32) &&& 31))) ||| ((u2 &&& (255 : Int32)) <<< ((16 : Int32) &&& 31))) ||| (u3 <<< ((24 : Int32) &&& 31))))) (13 : Int32)) * (5 : Int32)) + (-430675100 : Int32)) ^^^ (F_mix ((((u4 &&& (255 : Int32)) ||| ((u5 &&& (255 : Int32)) <<< ((8 : Int32) &&& 31))) ||| ((u6 &&& (255 : Int32)) <<< ((16 : Int32) &&& 31))) ||| (u7 <<< ((24 : Int32) &&& 31)))))), .val (.int (8 : Int32)), .val (.int (4 : Int32)), .val (.int ((((u4 &&& (255 : Int32)) ||| ((u5 &&& (255 : Int32)) <<< ((8 : Int32) &&& 31))) ||| ((u6 &&& (255 : Int32)) <<< ((16 : Int32) &&& 31))) ||| (u7 <<< ((24 : Int32) &&& 31))))] d_hs8_66 rfl (rfl : 66 + 1 = 67) ?_
  refine g_iloadN X23 hx hby d_hs8_67 rfl (rfl : 67 + 1 = 68) ?_
  refine g_bipush X23 hx hby (13 : Int32) d_hs8_68 (by decide) (rfl : 68 + 2 = 70) ?_
  obtain ⟨_, _, ⟨T24, L24, k24, n24⟩, -, X24, ⟨Lc24, hQ24, l24, y24, z24⟩, st24⟩ := Jvm.LawKit.callS X23 hx (y := (⟨"java/lang/Integer", "rotateLeft", "(II)I"⟩ : MethodName)) hown (mvT hZ (hw _ (List.mem_of_getElem? (i := 21) rfl))) (mvT hZ (hw _ (List.mem_of_getElem? (i := 22) rfl))) (mvT hZ (hw _ (List.mem_of_getElem? (i := 23) rfl))) (mvT hZ (hw _ (List.mem_of_getElem? (i := 24) rfl))) (by decide) (backOf (W := 0) (rm_rot l Z aT hw [] ((((F_rot ((0 : Int32) ^^^ (F_mix ((((u0 &&& (255 : Int32)) ||| ((u1 &&& (255 : Int32)) <<< ((8 : Int32) &&& 31))) ||| ((u2 &&& (255 : Int32)) <<< ((16 : Int32) &&& 31))) ||| (u3 <<< ((24 : Int32) &&& 31))))) (13 : Int32)) * (5 : Int32)) + (-430675100 : Int32)) ^^^ (F_mix ((((u4 &&& (255 : Int32)) ||| ((u5 &&& (255 : Int32)) <<< ((8 : Int32) &&& 31))) ||| ((u6 &&& (255 : Int32)) <<< ((16 : Int32) &&& 31))) ||| (u7 <<< ((24 : Int32) &&& 31))))) (13 : Int32) h0 n0 Z0) hZ (hw _ (List.mem_of_getElem? (i := 24) rfl)) (hw _ (List.mem_of_getElem? (i := 23) rfl)) (by decide) (by decide)) (g := (mkF m 70 #[.val (.ref a0), .val (.int ((((F_rot ((0 : Int32) ^^^ (F_mix ((((u0 &&& (255 : Int32)) ||| ((u1 &&& (255 : Int32)) <<< ((8 : Int32) &&& 31))) ||| ((u2 &&& (255 : Int32)) <<< ((16 : Int32) &&& 31))) ||| (u3 <<< ((24 : Int32) &&& 31))))) (13 : Int32)) * (5 : Int32)) + (-430675100 : Int32)) ^^^ (F_mix ((((u4 &&& (255 : Int32)) ||| ((u5 &&& (255 : Int32)) <<< ((8 : Int32) &&& 31))) ||| ((u6 &&& (255 : Int32)) <<< ((16 : Int32) &&& 31))) ||| (u7 <<< ((24 : Int32) &&& 31)))))), .val (.int (8 : Int32)), .val (.int (4 : Int32)), .val (.int ((((u4 &&& (255 : Int32)) ||| ((u5 &&& (255 : Int32)) <<< ((8 : Int32) &&& 31))) ||| ((u6 &&& (255 : Int32)) <<< ((16 : Int32) &&& 31))) ||| (u7 <<< ((24 : Int32) &&& 31))))] [(.int (13 : Int32)), (.int ((((F_rot ((0 : Int32) ^^^ (F_mix ((((u0 &&& (255 : Int32)) ||| ((u1 &&& (255 : Int32)) <<< ((8 : Int32) &&& 31))) ||| ((u2 &&& (255 : Int32)) <<< ((16 : Int32) &&& 31))) ||| (u3 <<< ((24 : Int32) &&& 31))))) (13 : Int32)) * (5 : Int32)) + (-430675100 : Int32)) ^^^ (F_mix ((((u4 &&& (255 : Int32)) ||| ((u5 &&& (255 : Int32)) <<< ((8 : Int32) &&& 31))) ||| ((u6 &&& (255 : Int32)) <<< ((16 : Int32) &&& 31))) ||| (u7 <<< ((24 : Int32) &&& 31))))))])) rfl (by rw [hml]; rfl) (argsL := [(.int ((((F_rot ((0 : Int32) ^^^ (F_mix ((((u0 &&& (255 : Int32)) ||| ((u1 &&& (255 : Int32)) <<< ((8 : Int32) &&& 31))) ||| ((u2 &&& (255 : Int32)) <<< ((16 : Int32) &&& 31))) ||| (u3 <<< ((24 : Int32) &&& 31))))) (13 : Int32)) * (5 : Int32)) + (-430675100 : Int32)) ^^^ (F_mix ((((u4 &&& (255 : Int32)) ||| ((u5 &&& (255 : Int32)) <<< ((8 : Int32) &&& 31))) ||| ((u6 &&& (255 : Int32)) <<< ((16 : Int32) &&& 31))) ||| (u7 <<< ((24 : Int32) &&& 31)))))), (.int (13 : Int32))]) (rest := []) (lenOf pd0 rfl) rfl (by show 2 * 0 + _ ≤ _; exact Nat.le_of_eq rfl) (hb hby d_hs8_70) (fun _ _ => ⟨rfl, eq23, (by decide : 0 + 0 ≤ _), (by decide : 0 + 0 ≤ _)⟩)
  dsimp only [Pt.U, Pt.locs, Pt.cells, Pt.slots] at X24 l24 y24 z24 st24 hQ24
  subst l24 y24 z24
  obtain ⟨rfl, N24q, eq24⟩ := hQ24
  have N24 := Fr.app N23 N24q
  refine own_go st24 ?_
  show own_Got p e below _ T24 (mkF m 73 #[.val (.ref a0), .val (.int ((((F_rot ((0 : Int32) ^^^ (F_mix ((((u0 &&& (255 : Int32)) ||| ((u1 &&& (255 : Int32)) <<< ((8 : Int32) &&& 31))) ||| ((u2 &&& (255 : Int32)) <<< ((16 : Int32) &&& 31))) ||| (u3 <<< ((24 : Int32) &&& 31))))) (13 : Int32)) * (5 : Int32)) + (-430675100 : Int32)) ^^^ (F_mix ((((u4 &&& (255 : Int32)) ||| ((u5 &&& (255 : Int32)) <<< ((8 : Int32) &&& 31))) ||| ((u6 &&& (255 : Int32)) <<< ((16 : Int32) &&& 31))) ||| (u7 <<< ((24 : Int32) &&& 31)))))), .val (.int (8 : Int32)), .val (.int (4 : Int32)), .val (.int ((((u4 &&& (255 : Int32)) ||| ((u5 &&& (255 : Int32)) <<< ((8 : Int32) &&& 31))) ||| ((u6 &&& (255 : Int32)) <<< ((16 : Int32) &&& 31))) ||| (u7 <<< ((24 : Int32) &&& 31))))] [(.int (F_rot ((((F_rot ((0 : Int32) ^^^ (F_mix ((((u0 &&& (255 : Int32)) ||| ((u1 &&& (255 : Int32)) <<< ((8 : Int32) &&& 31))) ||| ((u2 &&& (255 : Int32)) <<< ((16 : Int32) &&& 31))) ||| (u3 <<< ((24 : Int32) &&& 31))))) (13 : Int32)) * (5 : Int32)) + (-430675100 : Int32)) ^^^ (F_mix ((((u4 &&& (255 : Int32)) ||| ((u5 &&& (255 : Int32)) <<< ((8 : Int32) &&& 31))) ||| ((u6 &&& (255 : Int32)) <<< ((16 : Int32) &&& 31))) ||| (u7 <<< ((24 : Int32) &&& 31))))) (13 : Int32)))])
  refine g_iconst X24 hx hby (5 : Int32) d_hs8_73 (by decide) (rfl : 73 + 1 = 74) ?_
  refine g_imul X24 hx hby d_hs8_74 (rfl : 74 + 1 = 75) ?_
  refine g_ldcI X24 hx hby hZ hown (hw _ (List.mem_of_getElem? (i := 31) rfl)) d_hs8_75 (rfl : 75 + 2 = 77) ?_
  refine g_iadd X24 hx hby d_hs8_77 (rfl : 77 + 1 = 78) ?_
  refine g_istoreN X24 hx hby #[.val (.ref a0), .val (.int (((F_rot ((((F_rot ((0 : Int32) ^^^ (F_mix ((((u0 &&& (255 : Int32)) ||| ((u1 &&& (255 : Int32)) <<< ((8 : Int32) &&& 31))) ||| ((u2 &&& (255 : Int32)) <<< ((16 : Int32) &&& 31))) ||| (u3 <<< ((24 : Int32) &&& 31))))) (13 : Int32)) * (5 : Int32)) + (-430675100 : Int32)) ^^^ (F_mix ((((u4 &&& (255 : Int32)) ||| ((u5 &&& (255 : Int32)) <<< ((8 : Int32) &&& 31))) ||| ((u6 &&& (255 : Int32)) <<< ((16 : Int32) &&& 31))) ||| (u7 <<< ((24 : Int32) &&& 31))))) (13 : Int32)) * (5 : Int32)) + (-430675100 : Int32))), .val (.int (8 : Int32)), .val (.int (4 : Int32)), .val (.int ((((u4 &&& (255 : Int32)) ||| ((u5 &&& (255 : Int32)) <<< ((8 : Int32) &&& 31))) ||| ((u6 &&& (255 : Int32)) <<< ((16 : Int32) &&& 31))) ||| (u7 <<< ((24 : Int32) &&& 31))))] d_hs8_78 rfl (rfl : 78 + 1 = 79) ?_
  refine g_iinc X24 hx hby #[.val (.ref a0), .val (.int (((F_rot ((((F_rot ((0 : Int32) ^^^ (F_mix ((((u0 &&& (255 : Int32)) ||| ((u1 &&& (255 : Int32)) <<< ((8 : Int32) &&& 31))) ||| ((u2 &&& (255 : Int32)) <<< ((16 : Int32) &&& 31))) ||| (u3 <<< ((24 : Int32) &&& 31))))) (13 : Int32)) * (5 : Int32)) + (-430675100 : Int32)) ^^^ (F_mix ((((u4 &&& (255 : Int32)) ||| ((u5 &&& (255 : Int32)) <<< ((8 : Int32) &&& 31))) ||| ((u6 &&& (255 : Int32)) <<< ((16 : Int32) &&& 31))) ||| (u7 <<< ((24 : Int32) &&& 31))))) (13 : Int32)) * (5 : Int32)) + (-430675100 : Int32))), .val (.int (8 : Int32)), .val (.int ((4 : Int32) + (4 : Int32))), .val (.int ((((u4 &&& (255 : Int32)) ||| ((u5 &&& (255 : Int32)) <<< ((8 : Int32) &&& 31))) ||| ((u6 &&& (255 : Int32)) <<< ((16 : Int32) &&& 31))) ||| (u7 <<< ((24 : Int32) &&& 31))))] d_hs8_79 rfl rfl (rfl : 79 + 3 = 82) ?_
  rw [(by decide : ((4 : Int32) + (4 : Int32)) = (8 : Int32))]
  refine g_goto X24 hx hby d_hs8_82 (by decide) (pc' := 10) (by decide) ?_
  refine g_iloadN X24 hx hby d_hs8_10 rfl (rfl : 10 + 1 = 11) ?_
  refine g_iloadN X24 hx hby d_hs8_11 rfl (rfl : 11 + 1 = 12) ?_
  refine g_icT X24 hx hby d_hs8_12 (flt (by decide : ¬ ((8 : Int32) < (8 : Int32)))).2.1 (by decide) (pc' := 85) (by decide) ?_
  refine g_aloadN X24 hx hby d_hs8_85 rfl rfl (rfl : 85 + 1 = 86) ?_
  refine g_alen X24 hx hby hZ eq24 hp0 d_hs8_86 (rfl : 86 + 1 = 87) ?_
  refine g_iconst X24 hx hby (3 : Int32) d_hs8_87 (by decide) (rfl : 87 + 1 = 88) ?_
  refine g_iand X24 hx hby d_hs8_88 (rfl : 88 + 1 = 89) ?_
  rw [(by decide : ((8 : Int32) &&& (3 : Int32)) = (0 : Int32))]
  refine g_istoreN X24 hx hby #[.val (.ref a0), .val (.int (((F_rot ((((F_rot ((0 : Int32) ^^^ (F_mix ((((u0 &&& (255 : Int32)) ||| ((u1 &&& (255 : Int32)) <<< ((8 : Int32) &&& 31))) ||| ((u2 &&& (255 : Int32)) <<< ((16 : Int32) &&& 31))) ||| (u3 <<< ((24 : Int32) &&& 31))))) (13 : Int32)) * (5 : Int32)) + (-430675100 : Int32)) ^^^ (F_mix ((((u4 &&& (255 : Int32)) ||| ((u5 &&& (255 : Int32)) <<< ((8 : Int32) &&& 31))) ||| ((u6 &&& (255 : Int32)) <<< ((16 : Int32) &&& 31))) ||| (u7 <<< ((24 : Int32) &&& 31))))) (13 : Int32)) * (5 : Int32)) + (-430675100 : Int32))), .val (.int (8 : Int32)), .val (.int (0 : Int32)), .val (.int ((((u4 &&& (255 : Int32)) ||| ((u5 &&& (255 : Int32)) <<< ((8 : Int32) &&& 31))) ||| ((u6 &&& (255 : Int32)) <<< ((16 : Int32) &&& 31))) ||| (u7 <<< ((24 : Int32) &&& 31))))] d_hs8_89 rfl (rfl : 89 + 1 = 90) ?_
  refine g_iloadN X24 hx hby d_hs8_90 rfl (rfl : 90 + 1 = 91) ?_
  refine g_ifT X24 hx hby d_hs8_91 ((if0 _ _).trans (flt (by decide : ¬ ((0 : Int32) < (0 : Int32)))).2.2.2) (by decide) (pc' := 155) (by decide) ?_
  refine g_iloadN X24 hx hby d_hs8_155 rfl (rfl : 155 + 1 = 156) ?_
  refine g_aloadN X24 hx hby d_hs8_156 rfl rfl (rfl : 156 + 1 = 157) ?_
  refine g_alen X24 hx hby hZ eq24 hp0 d_hs8_157 (rfl : 157 + 1 = 158) ?_
  refine g_ixor X24 hx hby d_hs8_158 (rfl : 158 + 1 = 159) ?_
  refine g_istoreN X24 hx hby #[.val (.ref a0), .val (.int ((((F_rot ((((F_rot ((0 : Int32) ^^^ (F_mix ((((u0 &&& (255 : Int32)) ||| ((u1 &&& (255 : Int32)) <<< ((8 : Int32) &&& 31))) ||| ((u2 &&& (255 : Int32)) <<< ((16 : Int32) &&& 31))) ||| (u3 <<< ((24 : Int32) &&& 31))))) (13 : Int32)) * (5 : Int32)) + (-430675100 : Int32)) ^^^ (F_mix ((((u4 &&& (255 : Int32)) ||| ((u5 &&& (255 : Int32)) <<< ((8 : Int32) &&& 31))) ||| ((u6 &&& (255 : Int32)) <<< ((16 : Int32) &&& 31))) ||| (u7 <<< ((24 : Int32) &&& 31))))) (13 : Int32)) * (5 : Int32)) + (-430675100 : Int32)) ^^^ (8 : Int32))), .val (.int (8 : Int32)), .val (.int (0 : Int32)), .val (.int ((((u4 &&& (255 : Int32)) ||| ((u5 &&& (255 : Int32)) <<< ((8 : Int32) &&& 31))) ||| ((u6 &&& (255 : Int32)) <<< ((16 : Int32) &&& 31))) ||| (u7 <<< ((24 : Int32) &&& 31))))] d_hs8_159 rfl (rfl : 159 + 1 = 160) ?_
  refine g_iloadN X24 hx hby d_hs8_160 rfl (rfl : 160 + 1 = 161) ?_
  refine g_iloadN X24 hx hby d_hs8_161 rfl (rfl : 161 + 1 = 162) ?_
  refine g_bipush X24 hx hby (16 : Int32) d_hs8_162 (by decide) (rfl : 162 + 2 = 164) ?_
  refine g_iushr X24 hx hby d_hs8_164 (rfl : 164 + 1 = 165) ?_
  refine g_ixor X24 hx hby d_hs8_165 (rfl : 165 + 1 = 166) ?_
  refine g_istoreN X24 hx hby #[.val (.ref a0), .val (.int (((((F_rot ((((F_rot ((0 : Int32) ^^^ (F_mix ((((u0 &&& (255 : Int32)) ||| ((u1 &&& (255 : Int32)) <<< ((8 : Int32) &&& 31))) ||| ((u2 &&& (255 : Int32)) <<< ((16 : Int32) &&& 31))) ||| (u3 <<< ((24 : Int32) &&& 31))))) (13 : Int32)) * (5 : Int32)) + (-430675100 : Int32)) ^^^ (F_mix ((((u4 &&& (255 : Int32)) ||| ((u5 &&& (255 : Int32)) <<< ((8 : Int32) &&& 31))) ||| ((u6 &&& (255 : Int32)) <<< ((16 : Int32) &&& 31))) ||| (u7 <<< ((24 : Int32) &&& 31))))) (13 : Int32)) * (5 : Int32)) + (-430675100 : Int32)) ^^^ (8 : Int32)) ^^^ ((((((F_rot ((((F_rot ((0 : Int32) ^^^ (F_mix ((((u0 &&& (255 : Int32)) ||| ((u1 &&& (255 : Int32)) <<< ((8 : Int32) &&& 31))) ||| ((u2 &&& (255 : Int32)) <<< ((16 : Int32) &&& 31))) ||| (u3 <<< ((24 : Int32) &&& 31))))) (13 : Int32)) * (5 : Int32)) + (-430675100 : Int32)) ^^^ (F_mix ((((u4 &&& (255 : Int32)) ||| ((u5 &&& (255 : Int32)) <<< ((8 : Int32) &&& 31))) ||| ((u6 &&& (255 : Int32)) <<< ((16 : Int32) &&& 31))) ||| (u7 <<< ((24 : Int32) &&& 31))))) (13 : Int32)) * (5 : Int32)) + (-430675100 : Int32)) ^^^ (8 : Int32)).toUInt32 >>> ((16 : Int32) &&& 31).toUInt32).toInt32))), .val (.int (8 : Int32)), .val (.int (0 : Int32)), .val (.int ((((u4 &&& (255 : Int32)) ||| ((u5 &&& (255 : Int32)) <<< ((8 : Int32) &&& 31))) ||| ((u6 &&& (255 : Int32)) <<< ((16 : Int32) &&& 31))) ||| (u7 <<< ((24 : Int32) &&& 31))))] d_hs8_166 rfl (rfl : 166 + 1 = 167) ?_
  refine g_iloadN X24 hx hby d_hs8_167 rfl (rfl : 167 + 1 = 168) ?_
  refine g_ldcI X24 hx hby hZ hown (hw _ (List.mem_of_getElem? (i := 6) rfl)) d_hs8_168 (rfl : 168 + 2 = 170) ?_
  refine g_imul X24 hx hby d_hs8_170 (rfl : 170 + 1 = 171) ?_
  refine g_istoreN X24 hx hby #[.val (.ref a0), .val (.int ((((((F_rot ((((F_rot ((0 : Int32) ^^^ (F_mix ((((u0 &&& (255 : Int32)) ||| ((u1 &&& (255 : Int32)) <<< ((8 : Int32) &&& 31))) ||| ((u2 &&& (255 : Int32)) <<< ((16 : Int32) &&& 31))) ||| (u3 <<< ((24 : Int32) &&& 31))))) (13 : Int32)) * (5 : Int32)) + (-430675100 : Int32)) ^^^ (F_mix ((((u4 &&& (255 : Int32)) ||| ((u5 &&& (255 : Int32)) <<< ((8 : Int32) &&& 31))) ||| ((u6 &&& (255 : Int32)) <<< ((16 : Int32) &&& 31))) ||| (u7 <<< ((24 : Int32) &&& 31))))) (13 : Int32)) * (5 : Int32)) + (-430675100 : Int32)) ^^^ (8 : Int32)) ^^^ ((((((F_rot ((((F_rot ((0 : Int32) ^^^ (F_mix ((((u0 &&& (255 : Int32)) ||| ((u1 &&& (255 : Int32)) <<< ((8 : Int32) &&& 31))) ||| ((u2 &&& (255 : Int32)) <<< ((16 : Int32) &&& 31))) ||| (u3 <<< ((24 : Int32) &&& 31))))) (13 : Int32)) * (5 : Int32)) + (-430675100 : Int32)) ^^^ (F_mix ((((u4 &&& (255 : Int32)) ||| ((u5 &&& (255 : Int32)) <<< ((8 : Int32) &&& 31))) ||| ((u6 &&& (255 : Int32)) <<< ((16 : Int32) &&& 31))) ||| (u7 <<< ((24 : Int32) &&& 31))))) (13 : Int32)) * (5 : Int32)) + (-430675100 : Int32)) ^^^ (8 : Int32)).toUInt32 >>> ((16 : Int32) &&& 31).toUInt32).toInt32)) * (-2048144789 : Int32))), .val (.int (8 : Int32)), .val (.int (0 : Int32)), .val (.int ((((u4 &&& (255 : Int32)) ||| ((u5 &&& (255 : Int32)) <<< ((8 : Int32) &&& 31))) ||| ((u6 &&& (255 : Int32)) <<< ((16 : Int32) &&& 31))) ||| (u7 <<< ((24 : Int32) &&& 31))))] d_hs8_171 rfl (rfl : 171 + 1 = 172) ?_
  refine g_iloadN X24 hx hby d_hs8_172 rfl (rfl : 172 + 1 = 173) ?_
  refine g_iloadN X24 hx hby d_hs8_173 rfl (rfl : 173 + 1 = 174) ?_
  refine g_bipush X24 hx hby (13 : Int32) d_hs8_174 (by decide) (rfl : 174 + 2 = 176) ?_
  refine g_iushr X24 hx hby d_hs8_176 (rfl : 176 + 1 = 177) ?_
  refine g_ixor X24 hx hby d_hs8_177 (rfl : 177 + 1 = 178) ?_
  refine g_istoreN X24 hx hby #[.val (.ref a0), .val (.int (((((((F_rot ((((F_rot ((0 : Int32) ^^^ (F_mix ((((u0 &&& (255 : Int32)) ||| ((u1 &&& (255 : Int32)) <<< ((8 : Int32) &&& 31))) ||| ((u2 &&& (255 : Int32)) <<< ((16 : Int32) &&& 31))) ||| (u3 <<< ((24 : Int32) &&& 31))))) (13 : Int32)) * (5 : Int32)) + (-430675100 : Int32)) ^^^ (F_mix ((((u4 &&& (255 : Int32)) ||| ((u5 &&& (255 : Int32)) <<< ((8 : Int32) &&& 31))) ||| ((u6 &&& (255 : Int32)) <<< ((16 : Int32) &&& 31))) ||| (u7 <<< ((24 : Int32) &&& 31))))) (13 : Int32)) * (5 : Int32)) + (-430675100 : Int32)) ^^^ (8 : Int32)) ^^^ ((((((F_rot ((((F_rot ((0 : Int32) ^^^ (F_mix ((((u0 &&& (255 : Int32)) ||| ((u1 &&& (255 : Int32)) <<< ((8 : Int32) &&& 31))) ||| ((u2 &&& (255 : Int32)) <<< ((16 : Int32) &&& 31))) ||| (u3 <<< ((24 : Int32) &&& 31))))) (13 : Int32)) * (5 : Int32)) + (-430675100 : Int32)) ^^^ (F_mix ((((u4 &&& (255 : Int32)) ||| ((u5 &&& (255 : Int32)) <<< ((8 : Int32) &&& 31))) ||| ((u6 &&& (255 : Int32)) <<< ((16 : Int32) &&& 31))) ||| (u7 <<< ((24 : Int32) &&& 31))))) (13 : Int32)) * (5 : Int32)) + (-430675100 : Int32)) ^^^ (8 : Int32)).toUInt32 >>> ((16 : Int32) &&& 31).toUInt32).toInt32)) * (-2048144789 : Int32)) ^^^ ((((((((F_rot ((((F_rot ((0 : Int32) ^^^ (F_mix ((((u0 &&& (255 : Int32)) ||| ((u1 &&& (255 : Int32)) <<< ((8 : Int32) &&& 31))) ||| ((u2 &&& (255 : Int32)) <<< ((16 : Int32) &&& 31))) ||| (u3 <<< ((24 : Int32) &&& 31))))) (13 : Int32)) * (5 : Int32)) + (-430675100 : Int32)) ^^^ (F_mix ((((u4 &&& (255 : Int32)) ||| ((u5 &&& (255 : Int32)) <<< ((8 : Int32) &&& 31))) ||| ((u6 &&& (255 : Int32)) <<< ((16 : Int32) &&& 31))) ||| (u7 <<< ((24 : Int32) &&& 31))))) (13 : Int32)) * (5 : Int32)) + (-430675100 : Int32)) ^^^ (8 : Int32)) ^^^ ((((((F_rot ((((F_rot ((0 : Int32) ^^^ (F_mix ((((u0 &&& (255 : Int32)) ||| ((u1 &&& (255 : Int32)) <<< ((8 : Int32) &&& 31))) ||| ((u2 &&& (255 : Int32)) <<< ((16 : Int32) &&& 31))) ||| (u3 <<< ((24 : Int32) &&& 31))))) (13 : Int32)) * (5 : Int32)) + (-430675100 : Int32)) ^^^ (F_mix ((((u4 &&& (255 : Int32)) ||| ((u5 &&& (255 : Int32)) <<< ((8 : Int32) &&& 31))) ||| ((u6 &&& (255 : Int32)) <<< ((16 : Int32) &&& 31))) ||| (u7 <<< ((24 : Int32) &&& 31))))) (13 : Int32)) * (5 : Int32)) + (-430675100 : Int32)) ^^^ (8 : Int32)).toUInt32 >>> ((16 : Int32) &&& 31).toUInt32).toInt32)) * (-2048144789 : Int32)).toUInt32 >>> ((13 : Int32) &&& 31).toUInt32).toInt32))), .val (.int (8 : Int32)), .val (.int (0 : Int32)), .val (.int ((((u4 &&& (255 : Int32)) ||| ((u5 &&& (255 : Int32)) <<< ((8 : Int32) &&& 31))) ||| ((u6 &&& (255 : Int32)) <<< ((16 : Int32) &&& 31))) ||| (u7 <<< ((24 : Int32) &&& 31))))] d_hs8_178 rfl (rfl : 178 + 1 = 179) ?_
  refine g_iloadN X24 hx hby d_hs8_179 rfl (rfl : 179 + 1 = 180) ?_
  refine g_ldcI X24 hx hby hZ hown (hw _ (List.mem_of_getElem? (i := 7) rfl)) d_hs8_180 (rfl : 180 + 2 = 182) ?_
  refine g_imul X24 hx hby d_hs8_182 (rfl : 182 + 1 = 183) ?_
  refine g_istoreN X24 hx hby #[.val (.ref a0), .val (.int ((((((((F_rot ((((F_rot ((0 : Int32) ^^^ (F_mix ((((u0 &&& (255 : Int32)) ||| ((u1 &&& (255 : Int32)) <<< ((8 : Int32) &&& 31))) ||| ((u2 &&& (255 : Int32)) <<< ((16 : Int32) &&& 31))) ||| (u3 <<< ((24 : Int32) &&& 31))))) (13 : Int32)) * (5 : Int32)) + (-430675100 : Int32)) ^^^ (F_mix ((((u4 &&& (255 : Int32)) ||| ((u5 &&& (255 : Int32)) <<< ((8 : Int32) &&& 31))) ||| ((u6 &&& (255 : Int32)) <<< ((16 : Int32) &&& 31))) ||| (u7 <<< ((24 : Int32) &&& 31))))) (13 : Int32)) * (5 : Int32)) + (-430675100 : Int32)) ^^^ (8 : Int32)) ^^^ ((((((F_rot ((((F_rot ((0 : Int32) ^^^ (F_mix ((((u0 &&& (255 : Int32)) ||| ((u1 &&& (255 : Int32)) <<< ((8 : Int32) &&& 31))) ||| ((u2 &&& (255 : Int32)) <<< ((16 : Int32) &&& 31))) ||| (u3 <<< ((24 : Int32) &&& 31))))) (13 : Int32)) * (5 : Int32)) + (-430675100 : Int32)) ^^^ (F_mix ((((u4 &&& (255 : Int32)) ||| ((u5 &&& (255 : Int32)) <<< ((8 : Int32) &&& 31))) ||| ((u6 &&& (255 : Int32)) <<< ((16 : Int32) &&& 31))) ||| (u7 <<< ((24 : Int32) &&& 31))))) (13 : Int32)) * (5 : Int32)) + (-430675100 : Int32)) ^^^ (8 : Int32)).toUInt32 >>> ((16 : Int32) &&& 31).toUInt32).toInt32)) * (-2048144789 : Int32)) ^^^ ((((((((F_rot ((((F_rot ((0 : Int32) ^^^ (F_mix ((((u0 &&& (255 : Int32)) ||| ((u1 &&& (255 : Int32)) <<< ((8 : Int32) &&& 31))) ||| ((u2 &&& (255 : Int32)) <<< ((16 : Int32) &&& 31))) ||| (u3 <<< ((24 : Int32) &&& 31))))) (13 : Int32)) * (5 : Int32)) + (-430675100 : Int32)) ^^^ (F_mix ((((u4 &&& (255 : Int32)) ||| ((u5 &&& (255 : Int32)) <<< ((8 : Int32) &&& 31))) ||| ((u6 &&& (255 : Int32)) <<< ((16 : Int32) &&& 31))) ||| (u7 <<< ((24 : Int32) &&& 31))))) (13 : Int32)) * (5 : Int32)) + (-430675100 : Int32)) ^^^ (8 : Int32)) ^^^ ((((((F_rot ((((F_rot ((0 : Int32) ^^^ (F_mix ((((u0 &&& (255 : Int32)) ||| ((u1 &&& (255 : Int32)) <<< ((8 : Int32) &&& 31))) ||| ((u2 &&& (255 : Int32)) <<< ((16 : Int32) &&& 31))) ||| (u3 <<< ((24 : Int32) &&& 31))))) (13 : Int32)) * (5 : Int32)) + (-430675100 : Int32)) ^^^ (F_mix ((((u4 &&& (255 : Int32)) ||| ((u5 &&& (255 : Int32)) <<< ((8 : Int32) &&& 31))) ||| ((u6 &&& (255 : Int32)) <<< ((16 : Int32) &&& 31))) ||| (u7 <<< ((24 : Int32) &&& 31))))) (13 : Int32)) * (5 : Int32)) + (-430675100 : Int32)) ^^^ (8 : Int32)).toUInt32 >>> ((16 : Int32) &&& 31).toUInt32).toInt32)) * (-2048144789 : Int32)).toUInt32 >>> ((13 : Int32) &&& 31).toUInt32).toInt32)) * (-1028477387 : Int32))), .val (.int (8 : Int32)), .val (.int (0 : Int32)), .val (.int ((((u4 &&& (255 : Int32)) ||| ((u5 &&& (255 : Int32)) <<< ((8 : Int32) &&& 31))) ||| ((u6 &&& (255 : Int32)) <<< ((16 : Int32) &&& 31))) ||| (u7 <<< ((24 : Int32) &&& 31))))] d_hs8_183 rfl (rfl : 183 + 1 = 184) ?_
  refine g_iloadN X24 hx hby d_hs8_184 rfl (rfl : 184 + 1 = 185) ?_
  refine g_iloadN X24 hx hby d_hs8_185 rfl (rfl : 185 + 1 = 186) ?_
  refine g_bipush X24 hx hby (16 : Int32) d_hs8_186 (by decide) (rfl : 186 + 2 = 188) ?_
  refine g_iushr X24 hx hby d_hs8_188 (rfl : 188 + 1 = 189) ?_
  refine g_ixor X24 hx hby d_hs8_189 (rfl : 189 + 1 = 190) ?_
  refine own_retI X24 hx hby hlk hrt d_hs8_190 (by decide) (by decide) ?_
  show Q_hs8 Z a0 kk u0 u1 u2 u3 u4 u5 u6 u7 h0 n0 _ T24.heap _
  exact ⟨rfl, N24, eq24⟩
theorem own_mod9 (x : Int32) : (x &&& (2147483647 : Int32)) % (9 : Int32) = 0 ∨ (x &&& (2147483647 : Int32)) % (9 : Int32) = 1 ∨ (x &&& (2147483647 : Int32)) % (9 : Int32) = 2 ∨ (x &&& (2147483647 : Int32)) % (9 : Int32) = 3 ∨ (x &&& (2147483647 : Int32)) % (9 : Int32) = 4 ∨ (x &&& (2147483647 : Int32)) % (9 : Int32) = 5 ∨ (x &&& (2147483647 : Int32)) % (9 : Int32) = 6 ∨ (x &&& (2147483647 : Int32)) % (9 : Int32) = 7 ∨ (x &&& (2147483647 : Int32)) % (9 : Int32) = 8 := by
  have h := (c_and x 2147483647 (by decide)).1
  have h2 := (c_irem (x &&& 2147483647) 9 9 (by decide)).1 h
  generalize (x &&& 2147483647) % 9 = y at h2 ⊢
  have h3 : y.toInt = 0 ∨ y.toInt = 1 ∨ y.toInt = 2 ∨ y.toInt = 3 ∨ y.toInt = 4 ∨ y.toInt = 5 ∨ y.toInt = 6 ∨ y.toInt = 7 ∨ y.toInt = 8 := by omega
  simp only [← Int32.toInt_inj]
  exact h3

theorem own_u16 (x : Int32) : ((x.toUInt32 >>> ((16 : Int32) &&& 31).toUInt32).toInt32).toBitVec = x.toBitVec >>> 16 := rfl
theorem own_u13 (x : Int32) : ((x.toUInt32 >>> ((13 : Int32) &&& 31).toUInt32).toInt32).toBitVec = x.toBitVec >>> 13 := rfl
theorem own_u26 (x : Int32) : ((x.toUInt32 >>> ((26 : Int32) &&& 31).toUInt32).toInt32).toBitVec = x.toBitVec >>> 26 := rfl
theorem own_u15 (x : Int32) : ((x.toUInt32 >>> ((15 : Int32) &&& 31).toUInt32).toInt32).toBitVec = x.toBitVec >>> 15 := rfl
theorem own_u8 (x : Int32) : ((x.toUInt32 >>> ((8 : Int32) &&& 31).toUInt32).toInt32).toBitVec = x.toBitVec >>> 8 := rfl
theorem own_u24 (x : Int32) : ((x.toUInt32 >>> ((24 : Int32) &&& 31).toUInt32).toInt32).toBitVec = x.toBitVec >>> 24 := rfl
theorem own_l17 (x : Int32) : (x <<< ((17 : Int32) &&& 31)).toBitVec = x.toBitVec <<< 17 := rfl
theorem own_l19 (x : Int32) : (x <<< ((19 : Int32) &&& 31)).toBitVec = x.toBitVec <<< 19 := rfl
theorem own_l8 (x : Int32) : (x <<< ((8 : Int32) &&& 31)).toBitVec = x.toBitVec <<< 8 := rfl
theorem own_l16 (x : Int32) : (x <<< ((16 : Int32) &&& 31)).toBitVec = x.toBitVec <<< 16 := rfl
theorem own_l24 (x : Int32) : (x <<< ((24 : Int32) &&& 31)).toBitVec = x.toBitVec <<< 24 := rfl
theorem own_rot15 (x : Int32) : (F_rot x 15).toBitVec = (x.toBitVec <<< 15) ||| (x.toBitVec >>> 17) := rfl
theorem own_rot13 (x : Int32) : (F_rot x 13).toBitVec = (x.toBitVec <<< 13) ||| (x.toBitVec >>> 19) := rfl
theorem own_bx16 (x : BitVec 32) : (x ^^^ (x >>> 16)) ^^^ ((x ^^^ (x >>> 16)) >>> 16) = x := by
  apply BitVec.eq_of_getLsbD_eq
  intro i hi
  simp only [BitVec.getLsbD_xor, BitVec.getLsbD_ushiftRight]
  have e : x.getLsbD (16 + (16 + i)) = false := BitVec.getLsbD_of_ge _ _ (by omega)
  rw [e]
  cases x.getLsbD i <;> cases x.getLsbD (16 + i) <;> rfl
theorem own_bx13 (x : BitVec 32) : (x ^^^ (x >>> 13)) ^^^ (((x ^^^ (x >>> 13)) >>> 13) ^^^ ((x ^^^ (x >>> 13)) >>> 26)) = x := by
  apply BitVec.eq_of_getLsbD_eq
  intro i hi
  simp only [BitVec.getLsbD_xor, BitVec.getLsbD_ushiftRight]
  have e : x.getLsbD (13 + (26 + i)) = false := BitVec.getLsbD_of_ge _ _ (by omega)
  have e2 : 13 + (13 + i) = 26 + i := by omega
  rw [e, e2]
  cases x.getLsbD i <;> cases x.getLsbD (13 + i) <;> cases x.getLsbD (26 + i) <;> rfl
theorem own_brot (x : BitVec 32) (a b : Nat) (h : a + b = 32) (ha : 0 < a) (hb : 0 < b) : (((x <<< a) ||| (x >>> b)) >>> a) ||| (((x <<< a) ||| (x >>> b)) <<< b) = x := by
  apply BitVec.eq_of_getLsbD_eq
  intro i hi
  simp only [BitVec.getLsbD_or, BitVec.getLsbD_ushiftRight, BitVec.getLsbD_shiftLeft]
  by_cases q : i < b
  · have e1 : a + i < 32 := by omega
    have e2 : ¬ a + i < a := by omega
    have e3 : a + i - a = i := by omega
    have e4 : x.getLsbD (b + (a + i)) = false := BitVec.getLsbD_of_ge _ _ (by omega)
    simp [e1, e2, e3, e4, q]
  · have e1 : ¬ a + i < 32 := by omega
    have e2 : x.getLsbD (b + (a + i)) = false := BitVec.getLsbD_of_ge _ _ (by omega)
    have e3 : i - b < a := by omega
    have e4 : b + (i - b) = i := by omega
    simp [e1, e2, e3, e4, q, hi]
def own_x16 (h : Int32) : Int32 := h ^^^ ((h.toUInt32 >>> ((16 : Int32) &&& 31).toUInt32).toInt32)
def own_x13 (h : Int32) : Int32 := h ^^^ ((h.toUInt32 >>> ((13 : Int32) &&& 31).toUInt32).toInt32)
def own_y13 (h : Int32) : Int32 := h ^^^ (((h.toUInt32 >>> ((13 : Int32) &&& 31).toUInt32).toInt32) ^^^ ((h.toUInt32 >>> ((26 : Int32) &&& 31).toUInt32).toInt32))
def own_fm (h : Int32) : Int32 := own_x16 (own_x13 (own_x16 h * (-2048144789 : Int32)) * (-1028477387 : Int32))
theorem own_x16x (h : Int32) : own_x16 (own_x16 h) = h := by
  apply Int32.toBitVec_inj.mp
  exact own_bx16 h.toBitVec
theorem own_y13x (h : Int32) : own_y13 (own_x13 h) = h := by
  apply Int32.toBitVec_inj.mp
  exact own_bx13 h.toBitVec
theorem own_mul {c d : Int32} (x : Int32) (h : c * d = 1) : x * c * d = x := by
  rw [Int32.mul_assoc, h, Int32.mul_one]
theorem own_ifx (h : Int32) : F_ifx (own_fm h) = h := by
  show own_x16 (own_y13 (own_x16 (own_fm h) * F_inv (-1028477387)) * F_inv (-2048144789)) = h
  rw [own_fm, own_x16x, own_mul _ (by decide +kernel), own_y13x, own_mul _ (by decide +kernel), own_x16x]
def own_r15 (x : Int32) : Int32 := ((x.toUInt32 >>> ((15 : Int32) &&& 31).toUInt32).toInt32) ||| (x <<< ((17 : Int32) &&& 31))
def own_r13 (x : Int32) : Int32 := ((x.toUInt32 >>> ((13 : Int32) &&& 31).toUInt32).toInt32) ||| (x <<< ((19 : Int32) &&& 31))
theorem own_r15x (x : Int32) : own_r15 (F_rot x 15) = x := by
  apply Int32.toBitVec_inj.mp
  exact own_brot x.toBitVec 15 17 rfl (by decide) (by decide)
theorem own_r13x (x : Int32) : own_r13 (F_rot x 13) = x := by
  apply Int32.toBitVec_inj.mp
  exact own_brot x.toBitVec 13 19 rfl (by decide) (by decide)
theorem own_imx (k : Int32) : F_imx (F_mix k) = k := by
  show own_r15 (F_mix k * F_inv 461845907) * F_inv (-862048943) = k
  rw [F_mix, own_mul _ (by decide +kernel), own_r15x, own_mul _ (by decide +kernel)]
def own_step (h : Int32) : Int32 := F_rot h 13 * 5 + (-430675100)
theorem own_ist (h : Int32) : F_ist (own_step h) = h := by
  show own_r13 ((own_step h - (-430675100)) * F_inv 5) = h
  rw [own_step, Int32.add_sub_cancel, own_mul _ (by decide +kernel), own_r13x]
theorem own_xx (a b : Int32) : (a ^^^ b) ^^^ b = a := by rw [Int32.xor_assoc, Int32.xor_self, Int32.xor_zero]
theorem own_x3 (a b : Int32) : (a ^^^ b) ^^^ a = b := by rw [Int32.xor_comm a b, own_xx]
theorem own_0x (a : Int32) : (0 : Int32) ^^^ a = a := Int32.zero_xor
theorem own_b8 (y : Int32) (i : Nat) (h : i < 8) : (y.toInt8.toInt32).toBitVec.getLsbD i = y.toBitVec.getLsbD i := by
  show ((y.toBitVec.signExtend 8).signExtend 32).getLsbD i = _
  rw [BitVec.getLsbD_signExtend, BitVec.getLsbD_signExtend]
  simp [h, show i < 32 by omega]
theorem own_255 (i : Nat) (h : i < 32) : (255 : Int32).toBitVec.getLsbD i = decide (i < 8) := by
  have t : ∀ k : Fin 32, (255 : Int32).toBitVec.getLsbD k.val = decide (k.val < 8) := by decide +kernel
  exact t ⟨i, h⟩
theorem own_65535 (i : Nat) (h : i < 32) : (65535 : Int32).toBitVec.getLsbD i = decide (i < 16) := by
  have t : ∀ k : Fin 32, (65535 : Int32).toBitVec.getLsbD k.val = decide (k.val < 16) := by decide +kernel
  exact t ⟨i, h⟩
theorem own_24b (i : Nat) (h : i < 32) : (16777215 : Int32).toBitVec.getLsbD i = decide (i < 24) := by
  have t : ∀ k : Fin 32, (16777215 : Int32).toBitVec.getLsbD k.val = decide (k.val < 24) := by decide +kernel
  exact t ⟨i, h⟩
theorem own_and8 (y : Int32) : y.toInt8.toInt32 &&& 255 = y &&& 255 := by
  apply Int32.toBitVec_inj.mp
  apply BitVec.eq_of_getLsbD_eq
  intro i hi
  rw [Int32.toBitVec_and, Int32.toBitVec_and, BitVec.getLsbD_and, BitVec.getLsbD_and, own_255 i hi]
  by_cases q : i < 8
  · rw [own_b8 y i q]
  · simp [q]
abbrev own_c1 (x : Int32) : Int32 := x.toInt8.toInt32
abbrev own_c2 (x : Int32) : Int32 := ((x.toUInt32 >>> ((8 : Int32) &&& 31).toUInt32).toInt32).toInt8.toInt32
abbrev own_c3 (x : Int32) : Int32 := ((x.toUInt32 >>> ((16 : Int32) &&& 31).toUInt32).toInt32).toInt8.toInt32
abbrev own_c4 (x : Int32) : Int32 := ((x.toUInt32 >>> ((24 : Int32) &&& 31).toUInt32).toInt32).toInt8.toInt32
theorem own_k2 (x : Int32) : (own_c1 x &&& 255) ||| ((own_c2 x &&& 255) <<< ((8 : Int32) &&& 31)) = x &&& 65535 := by
  rw [own_and8, own_and8]
  apply Int32.toBitVec_inj.mp
  apply BitVec.eq_of_getLsbD_eq
  intro i hi
  rw [Int32.toBitVec_or, own_l8, Int32.toBitVec_and, Int32.toBitVec_and, Int32.toBitVec_and, own_u8]
  simp only [BitVec.getLsbD_or, BitVec.getLsbD_and, BitVec.getLsbD_shiftLeft, BitVec.getLsbD_ushiftRight, own_255 i hi, own_65535 i hi]
  by_cases q : i < 8
  · have e : i < 16 := by omega
    simp [q, e]
  · have e3 : 8 + (i - 8) = i := by omega
    rw [own_255 (i - 8) (by omega), e3]
    by_cases r : i < 16
    · have e : i - 8 < 8 := by omega
      simp [q, r, e, hi]
    · have e : ¬ i - 8 < 8 := by omega
      simp [q, r, e]
theorem own_k3 (x : Int32) : ((own_c1 x &&& 255) ||| ((own_c2 x &&& 255) <<< ((8 : Int32) &&& 31))) ||| ((own_c3 x &&& 255) <<< ((16 : Int32) &&& 31)) = x &&& 16777215 := by
  rw [own_k2, own_and8]
  apply Int32.toBitVec_inj.mp
  apply BitVec.eq_of_getLsbD_eq
  intro i hi
  rw [Int32.toBitVec_or, own_l16, Int32.toBitVec_and, Int32.toBitVec_and, Int32.toBitVec_and, own_u16]
  simp only [BitVec.getLsbD_or, BitVec.getLsbD_and, BitVec.getLsbD_shiftLeft, BitVec.getLsbD_ushiftRight, own_65535 i hi, own_24b i hi]
  by_cases q : i < 16
  · have e : i < 24 := by omega
    simp [q, e]
  · have e3 : 16 + (i - 16) = i := by omega
    rw [own_255 (i - 16) (by omega), e3]
    by_cases r : i < 24
    · have e : i - 16 < 8 := by omega
      simp [q, r, e, hi]
    · have e : ¬ i - 16 < 8 := by omega
      simp [q, r, e]
theorem own_k4 (x : Int32) : (((own_c1 x &&& 255) ||| ((own_c2 x &&& 255) <<< ((8 : Int32) &&& 31))) ||| ((own_c3 x &&& 255) <<< ((16 : Int32) &&& 31))) ||| (own_c4 x <<< ((24 : Int32) &&& 31)) = x := by
  rw [own_k3]
  apply Int32.toBitVec_inj.mp
  apply BitVec.eq_of_getLsbD_eq
  intro i hi
  rw [Int32.toBitVec_or, own_l24, Int32.toBitVec_and]
  simp only [BitVec.getLsbD_or, BitVec.getLsbD_and, BitVec.getLsbD_shiftLeft, own_24b i hi]
  by_cases q : i < 24
  · simp [q]
  · have e3 : 24 + (i - 24) = i := by omega
    rw [own_b8 _ (i - 24) (by omega), own_u24, BitVec.getLsbD_ushiftRight, e3]
    simp [q, hi]
theorem own_h0 (k : ClassId) : F_hs0 k = (0 : Int32) := rfl
theorem own_h1 (x1 : Int32) : (F_imx ((F_ifx (F_hs1 (own_c1 x1))) ^^^ (1 : Int32))) = (x1 &&& (255 : Int32)) := by
  have e : F_hs1 (own_c1 x1) = own_fm ((0 ^^^ F_mix (own_c1 x1 &&& 255)) ^^^ 1) := rfl
  rw [e, own_ifx, own_xx, own_0x, own_imx, own_and8]
theorem own_h2 (x1 : Int32) : (F_imx ((F_ifx (F_hs2 (own_c1 x1) (own_c2 x1))) ^^^ (2 : Int32))) = (x1 &&& (65535 : Int32)) := by
  have e : F_hs2 (own_c1 x1) (own_c2 x1) = own_fm ((0 ^^^ F_mix ((own_c1 x1 &&& 255) ||| ((own_c2 x1 &&& 255) <<< ((8 : Int32) &&& 31)))) ^^^ 2) := rfl
  rw [e, own_ifx, own_xx, own_0x, own_imx, own_k2]
theorem own_h3 (x1 : Int32) : (F_imx ((F_ifx (F_hs3 (own_c1 x1) (own_c2 x1) (own_c3 x1))) ^^^ (3 : Int32))) = (x1 &&& (16777215 : Int32)) := by
  have e : F_hs3 (own_c1 x1) (own_c2 x1) (own_c3 x1) = own_fm ((0 ^^^ F_mix (((own_c1 x1 &&& 255) ||| ((own_c2 x1 &&& 255) <<< ((8 : Int32) &&& 31))) ||| ((own_c3 x1 &&& 255) <<< ((16 : Int32) &&& 31)))) ^^^ 3) := rfl
  rw [e, own_ifx, own_xx, own_0x, own_imx, own_k3]
abbrev own_blk (x : Int32) : Int32 := (((own_c1 x &&& 255) ||| ((own_c2 x &&& 255) <<< ((8 : Int32) &&& 31))) ||| ((own_c3 x &&& 255) <<< ((16 : Int32) &&& 31))) ||| (own_c4 x <<< ((24 : Int32) &&& 31))
theorem own_kb (x : Int32) : own_blk x = x := own_k4 x
theorem own_i4 (x1 : Int32) : F_ifx (F_hs4 (own_c1 x1) (own_c2 x1) (own_c3 x1) (own_c4 x1)) ^^^ (4 : Int32) = own_step (F_mix x1) := by
  have e : F_hs4 (own_c1 x1) (own_c2 x1) (own_c3 x1) (own_c4 x1) = own_fm (own_step (0 ^^^ F_mix (own_blk x1)) ^^^ 4) := rfl
  rw [e, own_ifx, own_xx, own_0x, own_kb]
theorem own_h4 (x1 : Int32) : (F_imx (F_ist ((F_ifx (F_hs4 (own_c1 x1) (own_c2 x1) (own_c3 x1) (own_c4 x1))) ^^^ (4 : Int32)))) = x1 := by
  rw [own_i4, own_ist, own_imx]
theorem own_h5 (x1 x2 : Int32) : (F_imx (((F_ifx (F_hs5 (own_c1 x1) (own_c2 x1) (own_c3 x1) (own_c4 x1) (own_c1 x2))) ^^^ (5 : Int32)) ^^^ ((F_ifx (F_hs4 (own_c1 x1) (own_c2 x1) (own_c3 x1) (own_c4 x1))) ^^^ (4 : Int32)))) = (x2 &&& (255 : Int32)) := by
  have e : F_hs5 (own_c1 x1) (own_c2 x1) (own_c3 x1) (own_c4 x1) (own_c1 x2) = own_fm ((own_step (0 ^^^ F_mix (own_blk x1)) ^^^ F_mix (own_c1 x2 &&& 255)) ^^^ 5) := rfl
  rw [own_i4, e, own_ifx, own_xx, own_0x, own_kb, own_x3, own_imx, own_and8]
theorem own_h6 (x1 x2 : Int32) : (F_imx (((F_ifx (F_hs6 (own_c1 x1) (own_c2 x1) (own_c3 x1) (own_c4 x1) (own_c1 x2) (own_c2 x2))) ^^^ (6 : Int32)) ^^^ ((F_ifx (F_hs4 (own_c1 x1) (own_c2 x1) (own_c3 x1) (own_c4 x1))) ^^^ (4 : Int32)))) = (x2 &&& (65535 : Int32)) := by
  have e : F_hs6 (own_c1 x1) (own_c2 x1) (own_c3 x1) (own_c4 x1) (own_c1 x2) (own_c2 x2) = own_fm ((own_step (0 ^^^ F_mix (own_blk x1)) ^^^ F_mix ((own_c1 x2 &&& 255) ||| ((own_c2 x2 &&& 255) <<< ((8 : Int32) &&& 31)))) ^^^ 6) := rfl
  rw [own_i4, e, own_ifx, own_xx, own_0x, own_kb, own_x3, own_imx, own_k2]
theorem own_h7 (x1 x2 : Int32) : (F_imx (((F_ifx (F_hs7 (own_c1 x1) (own_c2 x1) (own_c3 x1) (own_c4 x1) (own_c1 x2) (own_c2 x2) (own_c3 x2))) ^^^ (7 : Int32)) ^^^ ((F_ifx (F_hs4 (own_c1 x1) (own_c2 x1) (own_c3 x1) (own_c4 x1))) ^^^ (4 : Int32)))) = (x2 &&& (16777215 : Int32)) := by
  have e : F_hs7 (own_c1 x1) (own_c2 x1) (own_c3 x1) (own_c4 x1) (own_c1 x2) (own_c2 x2) (own_c3 x2) = own_fm ((own_step (0 ^^^ F_mix (own_blk x1)) ^^^ F_mix (((own_c1 x2 &&& 255) ||| ((own_c2 x2 &&& 255) <<< ((8 : Int32) &&& 31))) ||| ((own_c3 x2 &&& 255) <<< ((16 : Int32) &&& 31)))) ^^^ 7) := rfl
  rw [own_i4, e, own_ifx, own_xx, own_0x, own_kb, own_x3, own_imx, own_k3]
theorem own_h8 (x1 x2 : Int32) : (F_imx ((F_ist ((F_ifx (F_hs8 (own_c1 x1) (own_c2 x1) (own_c3 x1) (own_c4 x1) (own_c1 x2) (own_c2 x2) (own_c3 x2) (own_c4 x2))) ^^^ (8 : Int32))) ^^^ ((F_ifx (F_hs4 (own_c1 x1) (own_c2 x1) (own_c3 x1) (own_c4 x1))) ^^^ (4 : Int32)))) = x2 := by
  have e : F_hs8 (own_c1 x1) (own_c2 x1) (own_c3 x1) (own_c4 x1) (own_c1 x2) (own_c2 x2) (own_c3 x2) (own_c4 x2) = own_fm (own_step (own_step (0 ^^^ F_mix (own_blk x1)) ^^^ F_mix (own_blk x2)) ^^^ 8) := rfl
  rw [own_i4, e, own_ifx, own_xx, own_ist, own_0x, own_kb, own_kb, own_x3, own_imx]

theorem pd2 : parseMethodDescriptor "([B)I" = some ⟨[(.array .byte)], some .int⟩ := by decide +kernel
theorem ef_law (m : MethodId) (x0 : Int32) (x1 : Int32) (x2 : Int32) : entryFrame m #[(.int x0), (.int x1), (.int x2)] maxLocals = mkF m 0 #[.val (.int x0), .val (.int x1), .val (.int x2), .unset, .unset, .unset, .unset, .unset, .unset] [] := by first | (simp [entryFrame, mkF, argsToLocals, Value.category, maxLocals]; done) | rfl
def Q_law (Z : State) (x0 : Int32) (x1 : Int32) (x2 : Int32) (h0 : Heap) (n0 : Nat) (v : Option Value) (h : Heap) (L : List Loc) : Prop := v = some (.int (1 : Int32)) ∧ Fr n0 L
set_option maxRecDepth 65536 in
set_option maxHeartbeats 40000000 in
theorem rm_law (l : Launch) (Z : State) (aT : Array Value) (hw : ∀ d ∈ tables_1, d.before aT Z = true) (ws : List Jvm.Cond) (x0 : Int32) (x1 : Int32) (x2 : Int32) (h0 : Heap) (n0 : Nat) (Z0 : n0 ≤ h0.size) :
    MetFree l x (head1 (Jvm.Cond.code x code maxLocals ret :: ws) room_1) (fun a U => a = #[(.int x0), (.int x1), (.int x2)] ∧ Z.Warmed39 U.vm ∧ U.heap = h0) (fun _ _ _ _ _ => True) (fun _ U o U' => ∃ v L, o = .returned v ∧ Q_law Z x0 x1 x2 h0 n0 v U'.heap L ∧ FrameEnd U o U' L 16 128) := by
  refine MetFree.of_bodySF (plainFor_of_name pn2) hisR ?_
  intro p e s m args below meth c s₁ Bd hml0 hP hK
  obtain ⟨rfl, hZ, hh⟩ := hP
  have hx := Bd.exec
  have hby := Bd.bytes
  have hml : c.maxLocals = 9 := hml0
  have hown : s.vm.findClass "com/example/farshard/farshard/store/Murmur3Hash32PinLaw" = some m.cls := findClass_of_methodNamed Bd.named
  have hnm := (name_of_methodNamed Bd.named Bd.method).1
  have hlk := Bd.notSynchronized
  have hrt := Bd.returns
  have X0 : Stand p l e room_1 s m #[(.int x0), (.int x1), (.int x2)] below meth c s₁ [] 0 0 := Stand.of_body Bd
  have e0 : s₁.heap = h0 := by rw [← hh, Bd.state]; rfl
  have N0 := Fr.nil n0
  refine own_cast (P := own_End s (Q_law Z x0 x1 x2 h0 n0) 16 128) (ef_law m x0 x1 x2) ?_
  refine g_iloadN X0 hx hby at_0 rfl (rfl : 0 + 1 = 1) ?_
  refine g_ldcI X0 hx hby hZ hown (hw _ (List.mem_of_getElem? (i := 0) rfl)) at_1 (rfl : 1 + 2 = 3) ?_
  refine g_iand X0 hx hby at_3 (rfl : 3 + 1 = 4) ?_
  refine g_bipush X0 hx hby (9 : Int32) at_4 (by decide) (rfl : 4 + 2 = 6) ?_
  refine g_irem X0 hx hby at_6 (by decide) (rfl : 6 + 1 = 7) ?_
  refine g_istoreN X0 hx hby #[.val (.int x0), .val (.int x1), .val (.int x2), .val (.int ((x0 &&& (2147483647 : Int32)) % (9 : Int32))), .unset, .unset, .unset, .unset, .unset] at_7 rfl (rfl : 7 + 1 = 8) ?_
  rcases own_mod9 x0 with hk25 | hk25 | hk25 | hk25 | hk25 | hk25 | hk25 | hk25 | hk25
  · rw [hk25]
    refine g_iloadN X0 hx hby at_8 rfl (rfl : 8 + 1 = 9) ?_
    obtain ⟨T26, h26, k26, X26, e26, E26, A26, B26, st26⟩ := newPE X0 hx hZ (hw _ (List.mem_of_getElem? (i := 1) rfl)) e0 (g := (mkF m 9 #[.val (.int x0), .val (.int x1), .val (.int x2), .val (.int (0 : Int32)), .unset, .unset, .unset, .unset, .unset] [(.int (0 : Int32))])) rfl (hb hby at_9) rfl (by decide) (cap := 0) (by decide) (by decide) (by decide) (by decide) (ad := "[B") (by decide +kernel)
    obtain ⟨b26, g26⟩ : ∃ z, z = h0.size := ⟨_, rfl⟩
    rw [← g26] at A26 B26 st26
    have Z26 : n0 ≤ h26.size := Nat.le_trans Z0 E26.1
    have ge26 : n0 ≤ b26 := Nat.le_trans Z0 (Nat.le_of_eq g26.symm)
    have V26 : Arv Z h26 b26 k26 .byte (0 : Int32) [] (.int (0 : Int32)) := (Arv.new A26 (by decide)).pad (pad_rep [] _ 0)
    refine own_go st26 ?_
    show own_Got p e below _ T26 (mkF m 11 #[.val (.int x0), .val (.int x1), .val (.int x2), .val (.int (0 : Int32)), .unset, .unset, .unset, .unset, .unset] [(.ref b26)])
    refine g_astore X26 hx hby #[.val (.int x0), .val (.int x1), .val (.int x2), .val (.int (0 : Int32)), .val (.ref b26), .unset, .unset, .unset, .unset] at_11 rfl rfl (rfl : 11 + 2 = 13) ?_
    refine g_iloadN X26 hx hby at_13 rfl (rfl : 13 + 1 = 14) ?_
    refine g_ifT X26 hx hby at_14 ((if0 _ _).trans (flt (by decide : ¬ ((0 : Int32) < (0 : Int32)))).2.2.2) (by decide) (pc' := 23) (by decide) ?_
    refine g_iloadN X26 hx hby at_23 rfl (rfl : 23 + 1 = 24) ?_
    refine g_iconst X26 hx hby (1 : Int32) at_24 (by decide) (rfl : 24 + 1 = 25) ?_
    refine g_icT X26 hx hby at_25 (flt (by decide : ¬ ((1 : Int32) < (0 : Int32)))).2.2.2 (by decide) (pc' := 37) (by decide) ?_
    refine g_iloadN X26 hx hby at_37 rfl (rfl : 37 + 1 = 38) ?_
    refine g_iconst X26 hx hby (2 : Int32) at_38 (by decide) (rfl : 38 + 1 = 39) ?_
    refine g_icT X26 hx hby at_39 (flt (by decide : ¬ ((2 : Int32) < (0 : Int32)))).2.2.2 (by decide) (pc' := 51) (by decide) ?_
    refine g_iloadN X26 hx hby at_51 rfl (rfl : 51 + 1 = 52) ?_
    refine g_iconst X26 hx hby (3 : Int32) at_52 (by decide) (rfl : 52 + 1 = 53) ?_
    refine g_icT X26 hx hby at_53 (flt (by decide : ¬ ((3 : Int32) < (0 : Int32)))).2.2.2 (by decide) (pc' := 65) (by decide) ?_
    refine g_iloadN X26 hx hby at_65 rfl (rfl : 65 + 1 = 66) ?_
    refine g_iconst X26 hx hby (4 : Int32) at_66 (by decide) (rfl : 66 + 1 = 67) ?_
    refine g_icT X26 hx hby at_67 (flt (by decide : ¬ ((4 : Int32) < (0 : Int32)))).2.2.2 (by decide) (pc' := 76) (by decide) ?_
    refine g_iloadN X26 hx hby at_76 rfl (rfl : 76 + 1 = 77) ?_
    refine g_iconst X26 hx hby (5 : Int32) at_77 (by decide) (rfl : 77 + 1 = 78) ?_
    refine g_icT X26 hx hby at_78 (flt (by decide : ¬ ((5 : Int32) < (0 : Int32)))).2.2.2 (by decide) (pc' := 90) (by decide) ?_
    refine g_iloadN X26 hx hby at_90 rfl (rfl : 90 + 1 = 91) ?_
    refine g_bipush X26 hx hby (6 : Int32) at_91 (by decide) (rfl : 91 + 2 = 93) ?_
    refine g_icT X26 hx hby at_93 (flt (by decide : ¬ ((6 : Int32) < (0 : Int32)))).2.2.2 (by decide) (pc' := 106) (by decide) ?_
    refine g_iloadN X26 hx hby at_106 rfl (rfl : 106 + 1 = 107) ?_
    refine g_bipush X26 hx hby (7 : Int32) at_107 (by decide) (rfl : 107 + 2 = 109) ?_
    refine g_icT X26 hx hby at_109 (flt (by decide : ¬ ((7 : Int32) < (0 : Int32)))).2.2.2 (by decide) (pc' := 122) (by decide) ?_
    refine g_iconst X26 hx hby (4 : Int32) at_122 (by decide) (rfl : 122 + 1 = 123) ?_
    obtain ⟨T27, h27, k27, X27, e27, E27, A27, B27, st27⟩ := newPE X26 hx hZ (hw _ (List.mem_of_getElem? (i := 1) rfl)) e26 (g := (mkF m 123 #[.val (.int x0), .val (.int x1), .val (.int x2), .val (.int (0 : Int32)), .val (.ref b26), .unset, .unset, .unset, .unset] [(.int (4 : Int32))])) rfl (hb hby at_123) rfl (by decide) (cap := 4) (by decide) (by decide) (by decide) (by decide) (ad := "[B") (by decide +kernel)
    obtain ⟨b27, g27⟩ : ∃ z, z = h26.size := ⟨_, rfl⟩
    rw [← g27] at A27 B27 st27
    have ne28 : b26 ≠ b27 := Nat.ne_of_lt (Nat.lt_of_lt_of_le (B26).lt (Nat.le_of_eq g27.symm))
    have Z27 : n0 ≤ h27.size := Nat.le_trans Z26 E27.1
    have ge27 : n0 ≤ b27 := Nat.le_trans Z26 (Nat.le_of_eq g27.symm)
    have V27 : Arv Z h27 b27 k27 .byte (4 : Int32) [(.int (0 : Int32)), (.int (0 : Int32)), (.int (0 : Int32)), (.int (0 : Int32))] (.int (0 : Int32)) := (Arv.new A27 (by decide)).pad (pad_rep [] _ 4)
    refine own_go st27 ?_
    show own_Got p e below _ T27 (mkF m 125 #[.val (.int x0), .val (.int x1), .val (.int x2), .val (.int (0 : Int32)), .val (.ref b26), .unset, .unset, .unset, .unset] [(.ref b27)])
    refine g_astore X27 hx hby #[.val (.int x0), .val (.int x1), .val (.int x2), .val (.int (0 : Int32)), .val (.ref b26), .val (.ref b27), .unset, .unset, .unset] at_125 rfl rfl (rfl : 125 + 2 = 127) ?_
    refine g_aload X27 hx hby at_127 rfl rfl (rfl : 127 + 2 = 129) ?_
    refine g_iconst X27 hx hby (0 : Int32) at_129 (by decide) (rfl : 129 + 1 = 130) ?_
    refine g_iloadN X27 hx hby at_130 rfl (rfl : 130 + 1 = 131) ?_
    refine g_i2b X27 hx hby at_131 (rfl : 131 + 1 = 132) ?_
    obtain ⟨T29, h29, X29, e29, W29, V29, st29⟩ := a_bastore X27 hx hby hZ e27 (ls := #[.val (.int x0), .val (.int x1), .val (.int x2), .val (.int (0 : Int32)), .val (.ref b26), .val (.ref b27), .unset, .unset, .unset]) (st := []) (j := (0 : Int32)) (x1.toInt8.toInt32) 0 V27 ⟨by decide, by decide⟩ (by decide) (Nat.le_of_ble_eq_true rfl) at_132
    have Z29 : n0 ≤ h29.size := Nat.le_trans Z27 (Keep.of_wr W29).1
    have N29 := Fr.snoc X29 N0 ge27
    have V29' : Arv Z h29 b27 k27 .byte (4 : Int32) [(.int (x1.toInt8.toInt32)), (.int (0 : Int32)), (.int (0 : Int32)), (.int (0 : Int32))] (.int (0 : Int32)) := by have q := V29; rw [own_nb] at q; exact q
    refine own_go st29 ?_
    show own_Got p e below _ T29 (mkF m 133 #[.val (.int x0), .val (.int x1), .val (.int x2), .val (.int (0 : Int32)), .val (.ref b26), .val (.ref b27), .unset, .unset, .unset] [])
    refine g_aload X29 hx hby at_133 rfl rfl (rfl : 133 + 2 = 135) ?_
    refine g_iconst X29 hx hby (1 : Int32) at_135 (by decide) (rfl : 135 + 1 = 136) ?_
    refine g_iloadN X29 hx hby at_136 rfl (rfl : 136 + 1 = 137) ?_
    refine g_bipush X29 hx hby (8 : Int32) at_137 (by decide) (rfl : 137 + 2 = 139) ?_
    refine g_iushr X29 hx hby at_139 (rfl : 139 + 1 = 140) ?_
    refine g_i2b X29 hx hby at_140 (rfl : 140 + 1 = 141) ?_
    obtain ⟨T30, h30, X30, e30, W30, V30, st30⟩ := a_bastore X29 hx hby hZ e29 (ls := #[.val (.int x0), .val (.int x1), .val (.int x2), .val (.int (0 : Int32)), .val (.ref b26), .val (.ref b27), .unset, .unset, .unset]) (st := []) (j := (1 : Int32)) (((x1.toUInt32 >>> ((8 : Int32) &&& 31).toUInt32).toInt32).toInt8.toInt32) 1 V29' ⟨by decide, by decide⟩ (by decide) (Nat.le_of_ble_eq_true rfl) at_141
    have Z30 : n0 ≤ h30.size := Nat.le_trans Z29 (Keep.of_wr W30).1
    have N30 := Fr.snoc X30 N29 ge27
    have V30' : Arv Z h30 b27 k27 .byte (4 : Int32) [(.int (x1.toInt8.toInt32)), (.int (((x1.toUInt32 >>> ((8 : Int32) &&& 31).toUInt32).toInt32).toInt8.toInt32)), (.int (0 : Int32)), (.int (0 : Int32))] (.int (0 : Int32)) := by have q := V30; rw [own_nb] at q; exact q
    refine own_go st30 ?_
    show own_Got p e below _ T30 (mkF m 142 #[.val (.int x0), .val (.int x1), .val (.int x2), .val (.int (0 : Int32)), .val (.ref b26), .val (.ref b27), .unset, .unset, .unset] [])
    refine g_aload X30 hx hby at_142 rfl rfl (rfl : 142 + 2 = 144) ?_
    refine g_iconst X30 hx hby (2 : Int32) at_144 (by decide) (rfl : 144 + 1 = 145) ?_
    refine g_iloadN X30 hx hby at_145 rfl (rfl : 145 + 1 = 146) ?_
    refine g_bipush X30 hx hby (16 : Int32) at_146 (by decide) (rfl : 146 + 2 = 148) ?_
    refine g_iushr X30 hx hby at_148 (rfl : 148 + 1 = 149) ?_
    refine g_i2b X30 hx hby at_149 (rfl : 149 + 1 = 150) ?_
    obtain ⟨T31, h31, X31, e31, W31, V31, st31⟩ := a_bastore X30 hx hby hZ e30 (ls := #[.val (.int x0), .val (.int x1), .val (.int x2), .val (.int (0 : Int32)), .val (.ref b26), .val (.ref b27), .unset, .unset, .unset]) (st := []) (j := (2 : Int32)) (((x1.toUInt32 >>> ((16 : Int32) &&& 31).toUInt32).toInt32).toInt8.toInt32) 2 V30' ⟨by decide, by decide⟩ (by decide) (Nat.le_of_ble_eq_true rfl) at_150
    have Z31 : n0 ≤ h31.size := Nat.le_trans Z30 (Keep.of_wr W31).1
    have N31 := Fr.snoc X31 N30 ge27
    have V31' : Arv Z h31 b27 k27 .byte (4 : Int32) [(.int (x1.toInt8.toInt32)), (.int (((x1.toUInt32 >>> ((8 : Int32) &&& 31).toUInt32).toInt32).toInt8.toInt32)), (.int (((x1.toUInt32 >>> ((16 : Int32) &&& 31).toUInt32).toInt32).toInt8.toInt32)), (.int (0 : Int32))] (.int (0 : Int32)) := by have q := V31; rw [own_nb] at q; exact q
    refine own_go st31 ?_
    show own_Got p e below _ T31 (mkF m 151 #[.val (.int x0), .val (.int x1), .val (.int x2), .val (.int (0 : Int32)), .val (.ref b26), .val (.ref b27), .unset, .unset, .unset] [])
    refine g_aload X31 hx hby at_151 rfl rfl (rfl : 151 + 2 = 153) ?_
    refine g_iconst X31 hx hby (3 : Int32) at_153 (by decide) (rfl : 153 + 1 = 154) ?_
    refine g_iloadN X31 hx hby at_154 rfl (rfl : 154 + 1 = 155) ?_
    refine g_bipush X31 hx hby (24 : Int32) at_155 (by decide) (rfl : 155 + 2 = 157) ?_
    refine g_iushr X31 hx hby at_157 (rfl : 157 + 1 = 158) ?_
    refine g_i2b X31 hx hby at_158 (rfl : 158 + 1 = 159) ?_
    obtain ⟨T32, h32, X32, e32, W32, V32, st32⟩ := a_bastore X31 hx hby hZ e31 (ls := #[.val (.int x0), .val (.int x1), .val (.int x2), .val (.int (0 : Int32)), .val (.ref b26), .val (.ref b27), .unset, .unset, .unset]) (st := []) (j := (3 : Int32)) (((x1.toUInt32 >>> ((24 : Int32) &&& 31).toUInt32).toInt32).toInt8.toInt32) 3 V31' ⟨by decide, by decide⟩ (by decide) (Nat.le_of_ble_eq_true rfl) at_159
    have Z32 : n0 ≤ h32.size := Nat.le_trans Z31 (Keep.of_wr W32).1
    have N32 := Fr.snoc X32 N31 ge27
    have V32' : Arv Z h32 b27 k27 .byte (4 : Int32) [(.int (x1.toInt8.toInt32)), (.int (((x1.toUInt32 >>> ((8 : Int32) &&& 31).toUInt32).toInt32).toInt8.toInt32)), (.int (((x1.toUInt32 >>> ((16 : Int32) &&& 31).toUInt32).toInt32).toInt8.toInt32)), (.int (((x1.toUInt32 >>> ((24 : Int32) &&& 31).toUInt32).toInt32).toInt8.toInt32))] (.int (0 : Int32)) := by have q := V32; rw [own_nb] at q; exact q
    refine own_go st32 ?_
    show own_Got p e below _ T32 (mkF m 160 #[.val (.int x0), .val (.int x1), .val (.int x2), .val (.int (0 : Int32)), .val (.ref b26), .val (.ref b27), .unset, .unset, .unset] [])
    refine g_aload X32 hx hby at_160 rfl rfl (rfl : 160 + 2 = 162) ?_
    have f34 : Arv Z h32 b26 k26 .byte (0 : Int32) [] (.int (0 : Int32)) := (Arv.other (Arv.other (Arv.other (Arv.other (V26.ext E27) W29 ne28) W30 ne28) W31 ne28) W32 ne28)
    obtain ⟨_, _, ⟨T33, L33, k33, n33⟩, -, X33, ⟨Lc33, hQ33, l33, y33, z33⟩, st33⟩ := Jvm.LawKit.callS X32 hx (y := (⟨"com/example/farshard/farshard/store/Murmur3", "hash32", "([B)I"⟩ : MethodName)) hown (mvT hZ (hw _ (List.mem_of_getElem? (i := 2) rfl))) (mvT hZ (hw _ (List.mem_of_getElem? (i := 3) rfl))) (mvT hZ (hw _ (List.mem_of_getElem? (i := 4) rfl))) (mvT hZ (hw _ (List.mem_of_getElem? (i := 5) rfl))) (by decide) (backOf (W := 0) (rm_hs0 l Z aT hw [] b26 k26 h32 n0 Z32 f34) hZ (hw _ (List.mem_of_getElem? (i := 5) rfl)) (hw _ (List.mem_of_getElem? (i := 4) rfl)) (by decide) (by decide)) (g := (mkF m 162 #[.val (.int x0), .val (.int x1), .val (.int x2), .val (.int (0 : Int32)), .val (.ref b26), .val (.ref b27), .unset, .unset, .unset] [(.ref b26)])) rfl (by rw [hml]; rfl) (argsL := [(.ref b26)]) (rest := []) (lenOf pd2 rfl) rfl (by show 2 * 0 + _ ≤ _; exact Nat.le_of_eq rfl) (hb hby at_162) (fun _ _ => ⟨rfl, e32, (by decide : 2 + 0 ≤ _), (by decide : 4 + 0 ≤ _)⟩)
    dsimp only [Pt.U, Pt.locs, Pt.cells, Pt.slots] at X33 l33 y33 z33 st33 hQ33
    subst l33 y33 z33
    obtain ⟨rfl, N33q, eq33⟩ := hQ33
    have N33 := Fr.app N32 N33q
    refine own_go st33 ?_
    show own_Got p e below _ T33 (mkF m 165 #[.val (.int x0), .val (.int x1), .val (.int x2), .val (.int (0 : Int32)), .val (.ref b26), .val (.ref b27), .unset, .unset, .unset] [(.int (F_hs0 k26))])
    refine g_istore X33 hx hby #[.val (.int x0), .val (.int x1), .val (.int x2), .val (.int (0 : Int32)), .val (.ref b26), .val (.ref b27), .val (.int (F_hs0 k26)), .unset, .unset] at_165 rfl (rfl : 165 + 2 = 167) ?_
    refine g_iload X33 hx hby at_167 rfl (rfl : 167 + 2 = 169) ?_
    obtain ⟨_, _, ⟨T35, L35, k35, n35⟩, -, X35, ⟨Lc35, hQ35, l35, y35, z35⟩, st35⟩ := Jvm.LawKit.callS X33 hx (y := (⟨"com/example/farshard/farshard/store/Murmur3Hash32PinLaw", "invFmix", "(I)I"⟩ : MethodName)) hown (mvT hZ (hw _ (List.mem_of_getElem? (i := 8) rfl))) (mvT hZ (hw _ (List.mem_of_getElem? (i := 9) rfl))) (mvT hZ (hw _ (List.mem_of_getElem? (i := 10) rfl))) (mvT hZ (hw _ (List.mem_of_getElem? (i := 11) rfl))) (by decide) (backOf (W := 0) (rm_ifx l Z aT hw [] (F_hs0 k26) h32 n0 Z32) hZ (hw _ (List.mem_of_getElem? (i := 11) rfl)) (hw _ (List.mem_of_getElem? (i := 10) rfl)) (by decide) (by decide)) (g := (mkF m 169 #[.val (.int x0), .val (.int x1), .val (.int x2), .val (.int (0 : Int32)), .val (.ref b26), .val (.ref b27), .val (.int (F_hs0 k26)), .unset, .unset] [(.int (F_hs0 k26))])) rfl (by rw [hml]; rfl) (argsL := [(.int (F_hs0 k26))]) (rest := []) (lenOf pd1 rfl) rfl (by show 2 * 0 + _ ≤ _; exact Nat.le_of_eq rfl) (hb hby at_169) (fun _ _ => ⟨rfl, eq33, (by decide : 2 + 0 ≤ _), (by decide : 4 + 0 ≤ _)⟩)
    dsimp only [Pt.U, Pt.locs, Pt.cells, Pt.slots] at X35 l35 y35 z35 st35 hQ35
    subst l35 y35 z35
    obtain ⟨rfl, N35q, eq35⟩ := hQ35
    have N35 := Fr.app N33 N35q
    refine own_go st35 ?_
    show own_Got p e below _ T35 (mkF m 172 #[.val (.int x0), .val (.int x1), .val (.int x2), .val (.int (0 : Int32)), .val (.ref b26), .val (.ref b27), .val (.int (F_hs0 k26)), .unset, .unset] [(.int (F_ifx (F_hs0 k26)))])
    refine g_iloadN X35 hx hby at_172 rfl (rfl : 172 + 1 = 173) ?_
    refine g_ixor X35 hx hby at_173 (rfl : 173 + 1 = 174) ?_
    refine g_istore X35 hx hby #[.val (.int x0), .val (.int x1), .val (.int x2), .val (.int (0 : Int32)), .val (.ref b26), .val (.ref b27), .val (.int (F_hs0 k26)), .val (.int ((F_ifx (F_hs0 k26)) ^^^ (0 : Int32))), .unset] at_174 rfl (rfl : 174 + 2 = 176) ?_
    refine g_iloadN X35 hx hby at_176 rfl (rfl : 176 + 1 = 177) ?_
    refine g_ifF X35 hx hby at_177 ((if0 _ _).trans (teq (by decide : (0 : Int32) = (0 : Int32))).2) (rfl : 177 + 3 = 180) ?_
    refine g_iload X35 hx hby at_180 rfl (rfl : 180 + 2 = 182) ?_
    have c36 : (F_hs0 k26) = (0 : Int32) := own_h0 _
    refine g_ifF X35 hx hby at_182 ((if0 _ _).trans (teq c36).2) (rfl : 182 + 3 = 185) ?_
    refine g_iconst X35 hx hby (1 : Int32) at_185 (by decide) (rfl : 185 + 1 = 186) ?_
    refine g_goto X35 hx hby at_186 (by decide) (pc' := 190) (by decide) ?_
    refine own_retN X35 hx hby hlk (t := .boolean) hrt (by simp) at_190 (by decide) (by decide) ?_
    show Q_law Z x0 x1 x2 h0 n0 _ T35.heap _
    exact ⟨rfl, N35⟩
  · rw [hk25]
    refine g_iloadN X0 hx hby at_8 rfl (rfl : 8 + 1 = 9) ?_
    obtain ⟨T37, h37, k37, X37, e37, E37, A37, B37, st37⟩ := newPE X0 hx hZ (hw _ (List.mem_of_getElem? (i := 1) rfl)) e0 (g := (mkF m 9 #[.val (.int x0), .val (.int x1), .val (.int x2), .val (.int (1 : Int32)), .unset, .unset, .unset, .unset, .unset] [(.int (1 : Int32))])) rfl (hb hby at_9) rfl (by decide) (cap := 1) (by decide) (by decide) (by decide) (by decide) (ad := "[B") (by decide +kernel)
    obtain ⟨b37, g37⟩ : ∃ z, z = h0.size := ⟨_, rfl⟩
    rw [← g37] at A37 B37 st37
    have Z37 : n0 ≤ h37.size := Nat.le_trans Z0 E37.1
    have ge37 : n0 ≤ b37 := Nat.le_trans Z0 (Nat.le_of_eq g37.symm)
    have V37 : Arv Z h37 b37 k37 .byte (1 : Int32) [(.int (0 : Int32))] (.int (0 : Int32)) := (Arv.new A37 (by decide)).pad (pad_rep [] _ 1)
    refine own_go st37 ?_
    show own_Got p e below _ T37 (mkF m 11 #[.val (.int x0), .val (.int x1), .val (.int x2), .val (.int (1 : Int32)), .unset, .unset, .unset, .unset, .unset] [(.ref b37)])
    refine g_astore X37 hx hby #[.val (.int x0), .val (.int x1), .val (.int x2), .val (.int (1 : Int32)), .val (.ref b37), .unset, .unset, .unset, .unset] at_11 rfl rfl (rfl : 11 + 2 = 13) ?_
    refine g_iloadN X37 hx hby at_13 rfl (rfl : 13 + 1 = 14) ?_
    refine g_ifF X37 hx hby at_14 ((if0 _ _).trans (tlt (by decide : (0 : Int32) < (1 : Int32))).2.2.2) (rfl : 14 + 3 = 17) ?_
    refine g_aload X37 hx hby at_17 rfl rfl (rfl : 17 + 2 = 19) ?_
    refine g_iconst X37 hx hby (0 : Int32) at_19 (by decide) (rfl : 19 + 1 = 20) ?_
    refine g_iloadN X37 hx hby at_20 rfl (rfl : 20 + 1 = 21) ?_
    refine g_i2b X37 hx hby at_21 (rfl : 21 + 1 = 22) ?_
    obtain ⟨T38, h38, X38, e38, W38, V38, st38⟩ := a_bastore X37 hx hby hZ e37 (ls := #[.val (.int x0), .val (.int x1), .val (.int x2), .val (.int (1 : Int32)), .val (.ref b37), .unset, .unset, .unset, .unset]) (st := []) (j := (0 : Int32)) (x1.toInt8.toInt32) 0 V37 ⟨by decide, by decide⟩ (by decide) (Nat.le_of_ble_eq_true rfl) at_22
    have Z38 : n0 ≤ h38.size := Nat.le_trans Z37 (Keep.of_wr W38).1
    have N38 := Fr.snoc X38 N0 ge37
    have V38' : Arv Z h38 b37 k37 .byte (1 : Int32) [(.int (x1.toInt8.toInt32))] (.int (0 : Int32)) := by have q := V38; rw [own_nb] at q; exact q
    refine own_go st38 ?_
    show own_Got p e below _ T38 (mkF m 23 #[.val (.int x0), .val (.int x1), .val (.int x2), .val (.int (1 : Int32)), .val (.ref b37), .unset, .unset, .unset, .unset] [])
    refine g_iloadN X38 hx hby at_23 rfl (rfl : 23 + 1 = 24) ?_
    refine g_iconst X38 hx hby (1 : Int32) at_24 (by decide) (rfl : 24 + 1 = 25) ?_
    refine g_icT X38 hx hby at_25 (flt (by decide : ¬ ((1 : Int32) < (1 : Int32)))).2.2.2 (by decide) (pc' := 37) (by decide) ?_
    refine g_iloadN X38 hx hby at_37 rfl (rfl : 37 + 1 = 38) ?_
    refine g_iconst X38 hx hby (2 : Int32) at_38 (by decide) (rfl : 38 + 1 = 39) ?_
    refine g_icT X38 hx hby at_39 (flt (by decide : ¬ ((2 : Int32) < (1 : Int32)))).2.2.2 (by decide) (pc' := 51) (by decide) ?_
    refine g_iloadN X38 hx hby at_51 rfl (rfl : 51 + 1 = 52) ?_
    refine g_iconst X38 hx hby (3 : Int32) at_52 (by decide) (rfl : 52 + 1 = 53) ?_
    refine g_icT X38 hx hby at_53 (flt (by decide : ¬ ((3 : Int32) < (1 : Int32)))).2.2.2 (by decide) (pc' := 65) (by decide) ?_
    refine g_iloadN X38 hx hby at_65 rfl (rfl : 65 + 1 = 66) ?_
    refine g_iconst X38 hx hby (4 : Int32) at_66 (by decide) (rfl : 66 + 1 = 67) ?_
    refine g_icT X38 hx hby at_67 (flt (by decide : ¬ ((4 : Int32) < (1 : Int32)))).2.2.2 (by decide) (pc' := 76) (by decide) ?_
    refine g_iloadN X38 hx hby at_76 rfl (rfl : 76 + 1 = 77) ?_
    refine g_iconst X38 hx hby (5 : Int32) at_77 (by decide) (rfl : 77 + 1 = 78) ?_
    refine g_icT X38 hx hby at_78 (flt (by decide : ¬ ((5 : Int32) < (1 : Int32)))).2.2.2 (by decide) (pc' := 90) (by decide) ?_
    refine g_iloadN X38 hx hby at_90 rfl (rfl : 90 + 1 = 91) ?_
    refine g_bipush X38 hx hby (6 : Int32) at_91 (by decide) (rfl : 91 + 2 = 93) ?_
    refine g_icT X38 hx hby at_93 (flt (by decide : ¬ ((6 : Int32) < (1 : Int32)))).2.2.2 (by decide) (pc' := 106) (by decide) ?_
    refine g_iloadN X38 hx hby at_106 rfl (rfl : 106 + 1 = 107) ?_
    refine g_bipush X38 hx hby (7 : Int32) at_107 (by decide) (rfl : 107 + 2 = 109) ?_
    refine g_icT X38 hx hby at_109 (flt (by decide : ¬ ((7 : Int32) < (1 : Int32)))).2.2.2 (by decide) (pc' := 122) (by decide) ?_
    refine g_iconst X38 hx hby (4 : Int32) at_122 (by decide) (rfl : 122 + 1 = 123) ?_
    have f40 : Exa Z h38 b37 "[B" := (Exa.wr W38 B37)
    obtain ⟨T39, h39, k39, X39, e39, E39, A39, B39, st39⟩ := newPE X38 hx hZ (hw _ (List.mem_of_getElem? (i := 1) rfl)) e38 (g := (mkF m 123 #[.val (.int x0), .val (.int x1), .val (.int x2), .val (.int (1 : Int32)), .val (.ref b37), .unset, .unset, .unset, .unset] [(.int (4 : Int32))])) rfl (hb hby at_123) rfl (by decide) (cap := 4) (by decide) (by decide) (by decide) (by decide) (ad := "[B") (by decide +kernel)
    obtain ⟨b39, g39⟩ : ∃ z, z = h38.size := ⟨_, rfl⟩
    rw [← g39] at A39 B39 st39
    have ne41 : b37 ≠ b39 := Nat.ne_of_lt (Nat.lt_of_lt_of_le (f40).lt (Nat.le_of_eq g39.symm))
    have Z39 : n0 ≤ h39.size := Nat.le_trans Z38 E39.1
    have ge39 : n0 ≤ b39 := Nat.le_trans Z38 (Nat.le_of_eq g39.symm)
    have V39 : Arv Z h39 b39 k39 .byte (4 : Int32) [(.int (0 : Int32)), (.int (0 : Int32)), (.int (0 : Int32)), (.int (0 : Int32))] (.int (0 : Int32)) := (Arv.new A39 (by decide)).pad (pad_rep [] _ 4)
    refine own_go st39 ?_
    show own_Got p e below _ T39 (mkF m 125 #[.val (.int x0), .val (.int x1), .val (.int x2), .val (.int (1 : Int32)), .val (.ref b37), .unset, .unset, .unset, .unset] [(.ref b39)])
    refine g_astore X39 hx hby #[.val (.int x0), .val (.int x1), .val (.int x2), .val (.int (1 : Int32)), .val (.ref b37), .val (.ref b39), .unset, .unset, .unset] at_125 rfl rfl (rfl : 125 + 2 = 127) ?_
    refine g_aload X39 hx hby at_127 rfl rfl (rfl : 127 + 2 = 129) ?_
    refine g_iconst X39 hx hby (0 : Int32) at_129 (by decide) (rfl : 129 + 1 = 130) ?_
    refine g_iloadN X39 hx hby at_130 rfl (rfl : 130 + 1 = 131) ?_
    refine g_i2b X39 hx hby at_131 (rfl : 131 + 1 = 132) ?_
    obtain ⟨T42, h42, X42, e42, W42, V42, st42⟩ := a_bastore X39 hx hby hZ e39 (ls := #[.val (.int x0), .val (.int x1), .val (.int x2), .val (.int (1 : Int32)), .val (.ref b37), .val (.ref b39), .unset, .unset, .unset]) (st := []) (j := (0 : Int32)) (x1.toInt8.toInt32) 0 V39 ⟨by decide, by decide⟩ (by decide) (Nat.le_of_ble_eq_true rfl) at_132
    have Z42 : n0 ≤ h42.size := Nat.le_trans Z39 (Keep.of_wr W42).1
    have N42 := Fr.snoc X42 N38 ge39
    have V42' : Arv Z h42 b39 k39 .byte (4 : Int32) [(.int (x1.toInt8.toInt32)), (.int (0 : Int32)), (.int (0 : Int32)), (.int (0 : Int32))] (.int (0 : Int32)) := by have q := V42; rw [own_nb] at q; exact q
    refine own_go st42 ?_
    show own_Got p e below _ T42 (mkF m 133 #[.val (.int x0), .val (.int x1), .val (.int x2), .val (.int (1 : Int32)), .val (.ref b37), .val (.ref b39), .unset, .unset, .unset] [])
    refine g_aload X42 hx hby at_133 rfl rfl (rfl : 133 + 2 = 135) ?_
    refine g_iconst X42 hx hby (1 : Int32) at_135 (by decide) (rfl : 135 + 1 = 136) ?_
    refine g_iloadN X42 hx hby at_136 rfl (rfl : 136 + 1 = 137) ?_
    refine g_bipush X42 hx hby (8 : Int32) at_137 (by decide) (rfl : 137 + 2 = 139) ?_
    refine g_iushr X42 hx hby at_139 (rfl : 139 + 1 = 140) ?_
    refine g_i2b X42 hx hby at_140 (rfl : 140 + 1 = 141) ?_
    obtain ⟨T43, h43, X43, e43, W43, V43, st43⟩ := a_bastore X42 hx hby hZ e42 (ls := #[.val (.int x0), .val (.int x1), .val (.int x2), .val (.int (1 : Int32)), .val (.ref b37), .val (.ref b39), .unset, .unset, .unset]) (st := []) (j := (1 : Int32)) (((x1.toUInt32 >>> ((8 : Int32) &&& 31).toUInt32).toInt32).toInt8.toInt32) 1 V42' ⟨by decide, by decide⟩ (by decide) (Nat.le_of_ble_eq_true rfl) at_141
    have Z43 : n0 ≤ h43.size := Nat.le_trans Z42 (Keep.of_wr W43).1
    have N43 := Fr.snoc X43 N42 ge39
    have V43' : Arv Z h43 b39 k39 .byte (4 : Int32) [(.int (x1.toInt8.toInt32)), (.int (((x1.toUInt32 >>> ((8 : Int32) &&& 31).toUInt32).toInt32).toInt8.toInt32)), (.int (0 : Int32)), (.int (0 : Int32))] (.int (0 : Int32)) := by have q := V43; rw [own_nb] at q; exact q
    refine own_go st43 ?_
    show own_Got p e below _ T43 (mkF m 142 #[.val (.int x0), .val (.int x1), .val (.int x2), .val (.int (1 : Int32)), .val (.ref b37), .val (.ref b39), .unset, .unset, .unset] [])
    refine g_aload X43 hx hby at_142 rfl rfl (rfl : 142 + 2 = 144) ?_
    refine g_iconst X43 hx hby (2 : Int32) at_144 (by decide) (rfl : 144 + 1 = 145) ?_
    refine g_iloadN X43 hx hby at_145 rfl (rfl : 145 + 1 = 146) ?_
    refine g_bipush X43 hx hby (16 : Int32) at_146 (by decide) (rfl : 146 + 2 = 148) ?_
    refine g_iushr X43 hx hby at_148 (rfl : 148 + 1 = 149) ?_
    refine g_i2b X43 hx hby at_149 (rfl : 149 + 1 = 150) ?_
    obtain ⟨T44, h44, X44, e44, W44, V44, st44⟩ := a_bastore X43 hx hby hZ e43 (ls := #[.val (.int x0), .val (.int x1), .val (.int x2), .val (.int (1 : Int32)), .val (.ref b37), .val (.ref b39), .unset, .unset, .unset]) (st := []) (j := (2 : Int32)) (((x1.toUInt32 >>> ((16 : Int32) &&& 31).toUInt32).toInt32).toInt8.toInt32) 2 V43' ⟨by decide, by decide⟩ (by decide) (Nat.le_of_ble_eq_true rfl) at_150
    have Z44 : n0 ≤ h44.size := Nat.le_trans Z43 (Keep.of_wr W44).1
    have N44 := Fr.snoc X44 N43 ge39
    have V44' : Arv Z h44 b39 k39 .byte (4 : Int32) [(.int (x1.toInt8.toInt32)), (.int (((x1.toUInt32 >>> ((8 : Int32) &&& 31).toUInt32).toInt32).toInt8.toInt32)), (.int (((x1.toUInt32 >>> ((16 : Int32) &&& 31).toUInt32).toInt32).toInt8.toInt32)), (.int (0 : Int32))] (.int (0 : Int32)) := by have q := V44; rw [own_nb] at q; exact q
    refine own_go st44 ?_
    show own_Got p e below _ T44 (mkF m 151 #[.val (.int x0), .val (.int x1), .val (.int x2), .val (.int (1 : Int32)), .val (.ref b37), .val (.ref b39), .unset, .unset, .unset] [])
    refine g_aload X44 hx hby at_151 rfl rfl (rfl : 151 + 2 = 153) ?_
    refine g_iconst X44 hx hby (3 : Int32) at_153 (by decide) (rfl : 153 + 1 = 154) ?_
    refine g_iloadN X44 hx hby at_154 rfl (rfl : 154 + 1 = 155) ?_
    refine g_bipush X44 hx hby (24 : Int32) at_155 (by decide) (rfl : 155 + 2 = 157) ?_
    refine g_iushr X44 hx hby at_157 (rfl : 157 + 1 = 158) ?_
    refine g_i2b X44 hx hby at_158 (rfl : 158 + 1 = 159) ?_
    obtain ⟨T45, h45, X45, e45, W45, V45, st45⟩ := a_bastore X44 hx hby hZ e44 (ls := #[.val (.int x0), .val (.int x1), .val (.int x2), .val (.int (1 : Int32)), .val (.ref b37), .val (.ref b39), .unset, .unset, .unset]) (st := []) (j := (3 : Int32)) (((x1.toUInt32 >>> ((24 : Int32) &&& 31).toUInt32).toInt32).toInt8.toInt32) 3 V44' ⟨by decide, by decide⟩ (by decide) (Nat.le_of_ble_eq_true rfl) at_159
    have Z45 : n0 ≤ h45.size := Nat.le_trans Z44 (Keep.of_wr W45).1
    have N45 := Fr.snoc X45 N44 ge39
    have V45' : Arv Z h45 b39 k39 .byte (4 : Int32) [(.int (x1.toInt8.toInt32)), (.int (((x1.toUInt32 >>> ((8 : Int32) &&& 31).toUInt32).toInt32).toInt8.toInt32)), (.int (((x1.toUInt32 >>> ((16 : Int32) &&& 31).toUInt32).toInt32).toInt8.toInt32)), (.int (((x1.toUInt32 >>> ((24 : Int32) &&& 31).toUInt32).toInt32).toInt8.toInt32))] (.int (0 : Int32)) := by have q := V45; rw [own_nb] at q; exact q
    refine own_go st45 ?_
    show own_Got p e below _ T45 (mkF m 160 #[.val (.int x0), .val (.int x1), .val (.int x2), .val (.int (1 : Int32)), .val (.ref b37), .val (.ref b39), .unset, .unset, .unset] [])
    refine g_aload X45 hx hby at_160 rfl rfl (rfl : 160 + 2 = 162) ?_
    have f47 : Arv Z h45 b37 k37 .byte (1 : Int32) [(.int (x1.toInt8.toInt32))] (.int (0 : Int32)) := (Arv.other (Arv.other (Arv.other (Arv.other (V38'.ext E39) W42 ne41) W43 ne41) W44 ne41) W45 ne41)
    obtain ⟨_, _, ⟨T46, L46, k46, n46⟩, -, X46, ⟨Lc46, hQ46, l46, y46, z46⟩, st46⟩ := Jvm.LawKit.callS X45 hx (y := (⟨"com/example/farshard/farshard/store/Murmur3", "hash32", "([B)I"⟩ : MethodName)) hown (mvT hZ (hw _ (List.mem_of_getElem? (i := 2) rfl))) (mvT hZ (hw _ (List.mem_of_getElem? (i := 3) rfl))) (mvT hZ (hw _ (List.mem_of_getElem? (i := 4) rfl))) (mvT hZ (hw _ (List.mem_of_getElem? (i := 5) rfl))) (by decide) (backOf (W := 0) (rm_hs1 l Z aT hw [] b37 k37 (x1.toInt8.toInt32) h45 n0 Z45 f47) hZ (hw _ (List.mem_of_getElem? (i := 5) rfl)) (hw _ (List.mem_of_getElem? (i := 4) rfl)) (by decide) (by decide)) (g := (mkF m 162 #[.val (.int x0), .val (.int x1), .val (.int x2), .val (.int (1 : Int32)), .val (.ref b37), .val (.ref b39), .unset, .unset, .unset] [(.ref b37)])) rfl (by rw [hml]; rfl) (argsL := [(.ref b37)]) (rest := []) (lenOf pd2 rfl) rfl (by show 2 * 0 + _ ≤ _; exact Nat.le_of_eq rfl) (hb hby at_162) (fun _ _ => ⟨rfl, e45, (by decide : 2 + 0 ≤ _), (by decide : 5 + 0 ≤ _)⟩)
    dsimp only [Pt.U, Pt.locs, Pt.cells, Pt.slots] at X46 l46 y46 z46 st46 hQ46
    subst l46 y46 z46
    obtain ⟨rfl, N46q, eq46⟩ := hQ46
    have N46 := Fr.app N45 N46q
    refine own_go st46 ?_
    show own_Got p e below _ T46 (mkF m 165 #[.val (.int x0), .val (.int x1), .val (.int x2), .val (.int (1 : Int32)), .val (.ref b37), .val (.ref b39), .unset, .unset, .unset] [(.int (F_hs1 (x1.toInt8.toInt32)))])
    refine g_istore X46 hx hby #[.val (.int x0), .val (.int x1), .val (.int x2), .val (.int (1 : Int32)), .val (.ref b37), .val (.ref b39), .val (.int (F_hs1 (x1.toInt8.toInt32))), .unset, .unset] at_165 rfl (rfl : 165 + 2 = 167) ?_
    refine g_iload X46 hx hby at_167 rfl (rfl : 167 + 2 = 169) ?_
    obtain ⟨_, _, ⟨T48, L48, k48, n48⟩, -, X48, ⟨Lc48, hQ48, l48, y48, z48⟩, st48⟩ := Jvm.LawKit.callS X46 hx (y := (⟨"com/example/farshard/farshard/store/Murmur3Hash32PinLaw", "invFmix", "(I)I"⟩ : MethodName)) hown (mvT hZ (hw _ (List.mem_of_getElem? (i := 8) rfl))) (mvT hZ (hw _ (List.mem_of_getElem? (i := 9) rfl))) (mvT hZ (hw _ (List.mem_of_getElem? (i := 10) rfl))) (mvT hZ (hw _ (List.mem_of_getElem? (i := 11) rfl))) (by decide) (backOf (W := 0) (rm_ifx l Z aT hw [] (F_hs1 (x1.toInt8.toInt32)) h45 n0 Z45) hZ (hw _ (List.mem_of_getElem? (i := 11) rfl)) (hw _ (List.mem_of_getElem? (i := 10) rfl)) (by decide) (by decide)) (g := (mkF m 169 #[.val (.int x0), .val (.int x1), .val (.int x2), .val (.int (1 : Int32)), .val (.ref b37), .val (.ref b39), .val (.int (F_hs1 (x1.toInt8.toInt32))), .unset, .unset] [(.int (F_hs1 (x1.toInt8.toInt32)))])) rfl (by rw [hml]; rfl) (argsL := [(.int (F_hs1 (x1.toInt8.toInt32)))]) (rest := []) (lenOf pd1 rfl) rfl (by show 2 * 0 + _ ≤ _; exact Nat.le_of_eq rfl) (hb hby at_169) (fun _ _ => ⟨rfl, eq46, (by decide : 2 + 0 ≤ _), (by decide : 5 + 0 ≤ _)⟩)
    dsimp only [Pt.U, Pt.locs, Pt.cells, Pt.slots] at X48 l48 y48 z48 st48 hQ48
    subst l48 y48 z48
    obtain ⟨rfl, N48q, eq48⟩ := hQ48
    have N48 := Fr.app N46 N48q
    refine own_go st48 ?_
    show own_Got p e below _ T48 (mkF m 172 #[.val (.int x0), .val (.int x1), .val (.int x2), .val (.int (1 : Int32)), .val (.ref b37), .val (.ref b39), .val (.int (F_hs1 (x1.toInt8.toInt32))), .unset, .unset] [(.int (F_ifx (F_hs1 (x1.toInt8.toInt32))))])
    refine g_iloadN X48 hx hby at_172 rfl (rfl : 172 + 1 = 173) ?_
    refine g_ixor X48 hx hby at_173 (rfl : 173 + 1 = 174) ?_
    refine g_istore X48 hx hby #[.val (.int x0), .val (.int x1), .val (.int x2), .val (.int (1 : Int32)), .val (.ref b37), .val (.ref b39), .val (.int (F_hs1 (x1.toInt8.toInt32))), .val (.int ((F_ifx (F_hs1 (x1.toInt8.toInt32))) ^^^ (1 : Int32))), .unset] at_174 rfl (rfl : 174 + 2 = 176) ?_
    refine g_iloadN X48 hx hby at_176 rfl (rfl : 176 + 1 = 177) ?_
    refine g_ifT X48 hx hby at_177 ((if0 _ _).trans (feq (by decide : ¬ ((1 : Int32) = (0 : Int32)))).2) (by decide) (pc' := 191) (by decide) ?_
    refine g_iloadN X48 hx hby at_191 rfl (rfl : 191 + 1 = 192) ?_
    refine g_iconst X48 hx hby (4 : Int32) at_192 (by decide) (rfl : 192 + 1 = 193) ?_
    refine g_icF X48 hx hby at_193 (tlt (by decide : (1 : Int32) < (4 : Int32))).2.1 (rfl : 193 + 3 = 196) ?_
    refine g_iload X48 hx hby at_196 rfl (rfl : 196 + 2 = 198) ?_
    obtain ⟨_, _, ⟨T49, L49, k49, n49⟩, -, X49, ⟨Lc49, hQ49, l49, y49, z49⟩, st49⟩ := Jvm.LawKit.callS X48 hx (y := (⟨"com/example/farshard/farshard/store/Murmur3Hash32PinLaw", "invMix", "(I)I"⟩ : MethodName)) hown (mvT hZ (hw _ (List.mem_of_getElem? (i := 26) rfl))) (mvT hZ (hw _ (List.mem_of_getElem? (i := 27) rfl))) (mvT hZ (hw _ (List.mem_of_getElem? (i := 10) rfl))) (mvT hZ (hw _ (List.mem_of_getElem? (i := 28) rfl))) (by decide) (backOf (W := 0) (rm_imx l Z aT hw [] ((F_ifx (F_hs1 (x1.toInt8.toInt32))) ^^^ (1 : Int32)) h45 n0 Z45) hZ (hw _ (List.mem_of_getElem? (i := 28) rfl)) (hw _ (List.mem_of_getElem? (i := 10) rfl)) (by decide) (by decide)) (g := (mkF m 198 #[.val (.int x0), .val (.int x1), .val (.int x2), .val (.int (1 : Int32)), .val (.ref b37), .val (.ref b39), .val (.int (F_hs1 (x1.toInt8.toInt32))), .val (.int ((F_ifx (F_hs1 (x1.toInt8.toInt32))) ^^^ (1 : Int32))), .unset] [(.int ((F_ifx (F_hs1 (x1.toInt8.toInt32))) ^^^ (1 : Int32)))])) rfl (by rw [hml]; rfl) (argsL := [(.int ((F_ifx (F_hs1 (x1.toInt8.toInt32))) ^^^ (1 : Int32)))]) (rest := []) (lenOf pd1 rfl) rfl (by show 2 * 0 + _ ≤ _; exact Nat.le_of_eq rfl) (hb hby at_198) (fun _ _ => ⟨rfl, eq48, (by decide : 2 + 0 ≤ _), (by decide : 5 + 0 ≤ _)⟩)
    dsimp only [Pt.U, Pt.locs, Pt.cells, Pt.slots] at X49 l49 y49 z49 st49 hQ49
    subst l49 y49 z49
    obtain ⟨rfl, N49q, eq49⟩ := hQ49
    have N49 := Fr.app N48 N49q
    refine own_go st49 ?_
    show own_Got p e below _ T49 (mkF m 201 #[.val (.int x0), .val (.int x1), .val (.int x2), .val (.int (1 : Int32)), .val (.ref b37), .val (.ref b39), .val (.int (F_hs1 (x1.toInt8.toInt32))), .val (.int ((F_ifx (F_hs1 (x1.toInt8.toInt32))) ^^^ (1 : Int32))), .unset] [(.int (F_imx ((F_ifx (F_hs1 (x1.toInt8.toInt32))) ^^^ (1 : Int32))))])
    refine g_iloadN X49 hx hby at_201 rfl (rfl : 201 + 1 = 202) ?_
    refine g_iconst X49 hx hby (1 : Int32) at_202 (by decide) (rfl : 202 + 1 = 203) ?_
    refine g_bipush X49 hx hby (8 : Int32) at_203 (by decide) (rfl : 203 + 2 = 205) ?_
    refine g_iloadN X49 hx hby at_205 rfl (rfl : 205 + 1 = 206) ?_
    refine g_imul X49 hx hby at_206 (rfl : 206 + 1 = 207) ?_
    rw [(by decide : ((8 : Int32) * (1 : Int32)) = (8 : Int32))]
    refine g_ishl X49 hx hby at_207 (rfl : 207 + 1 = 208) ?_
    rw [(by decide : ((1 : Int32) <<< ((8 : Int32) &&& 31)) = (256 : Int32))]
    refine g_iconst X49 hx hby (1 : Int32) at_208 (by decide) (rfl : 208 + 1 = 209) ?_
    refine g_isub X49 hx hby at_209 (rfl : 209 + 1 = 210) ?_
    rw [(by decide : ((256 : Int32) - (1 : Int32)) = (255 : Int32))]
    refine g_iand X49 hx hby at_210 (rfl : 210 + 1 = 211) ?_
    have c50 : (F_imx ((F_ifx (F_hs1 (x1.toInt8.toInt32))) ^^^ (1 : Int32))) = (x1 &&& (255 : Int32)) := own_h1 x1
    refine g_icF X49 hx hby at_211 (teq c50).2 (rfl : 211 + 3 = 214) ?_
    refine g_iconst X49 hx hby (1 : Int32) at_214 (by decide) (rfl : 214 + 1 = 215) ?_
    refine g_goto X49 hx hby at_215 (by decide) (pc' := 219) (by decide) ?_
    refine own_retN X49 hx hby hlk (t := .boolean) hrt (by simp) at_219 (by decide) (by decide) ?_
    show Q_law Z x0 x1 x2 h0 n0 _ T49.heap _
    exact ⟨rfl, N49⟩
  · rw [hk25]
    refine g_iloadN X0 hx hby at_8 rfl (rfl : 8 + 1 = 9) ?_
    obtain ⟨T51, h51, k51, X51, e51, E51, A51, B51, st51⟩ := newPE X0 hx hZ (hw _ (List.mem_of_getElem? (i := 1) rfl)) e0 (g := (mkF m 9 #[.val (.int x0), .val (.int x1), .val (.int x2), .val (.int (2 : Int32)), .unset, .unset, .unset, .unset, .unset] [(.int (2 : Int32))])) rfl (hb hby at_9) rfl (by decide) (cap := 2) (by decide) (by decide) (by decide) (by decide) (ad := "[B") (by decide +kernel)
    obtain ⟨b51, g51⟩ : ∃ z, z = h0.size := ⟨_, rfl⟩
    rw [← g51] at A51 B51 st51
    have Z51 : n0 ≤ h51.size := Nat.le_trans Z0 E51.1
    have ge51 : n0 ≤ b51 := Nat.le_trans Z0 (Nat.le_of_eq g51.symm)
    have V51 : Arv Z h51 b51 k51 .byte (2 : Int32) [(.int (0 : Int32)), (.int (0 : Int32))] (.int (0 : Int32)) := (Arv.new A51 (by decide)).pad (pad_rep [] _ 2)
    refine own_go st51 ?_
    show own_Got p e below _ T51 (mkF m 11 #[.val (.int x0), .val (.int x1), .val (.int x2), .val (.int (2 : Int32)), .unset, .unset, .unset, .unset, .unset] [(.ref b51)])
    refine g_astore X51 hx hby #[.val (.int x0), .val (.int x1), .val (.int x2), .val (.int (2 : Int32)), .val (.ref b51), .unset, .unset, .unset, .unset] at_11 rfl rfl (rfl : 11 + 2 = 13) ?_
    refine g_iloadN X51 hx hby at_13 rfl (rfl : 13 + 1 = 14) ?_
    refine g_ifF X51 hx hby at_14 ((if0 _ _).trans (tlt (by decide : (0 : Int32) < (2 : Int32))).2.2.2) (rfl : 14 + 3 = 17) ?_
    refine g_aload X51 hx hby at_17 rfl rfl (rfl : 17 + 2 = 19) ?_
    refine g_iconst X51 hx hby (0 : Int32) at_19 (by decide) (rfl : 19 + 1 = 20) ?_
    refine g_iloadN X51 hx hby at_20 rfl (rfl : 20 + 1 = 21) ?_
    refine g_i2b X51 hx hby at_21 (rfl : 21 + 1 = 22) ?_
    obtain ⟨T52, h52, X52, e52, W52, V52, st52⟩ := a_bastore X51 hx hby hZ e51 (ls := #[.val (.int x0), .val (.int x1), .val (.int x2), .val (.int (2 : Int32)), .val (.ref b51), .unset, .unset, .unset, .unset]) (st := []) (j := (0 : Int32)) (x1.toInt8.toInt32) 0 V51 ⟨by decide, by decide⟩ (by decide) (Nat.le_of_ble_eq_true rfl) at_22
    have Z52 : n0 ≤ h52.size := Nat.le_trans Z51 (Keep.of_wr W52).1
    have N52 := Fr.snoc X52 N0 ge51
    have V52' : Arv Z h52 b51 k51 .byte (2 : Int32) [(.int (x1.toInt8.toInt32)), (.int (0 : Int32))] (.int (0 : Int32)) := by have q := V52; rw [own_nb] at q; exact q
    refine own_go st52 ?_
    show own_Got p e below _ T52 (mkF m 23 #[.val (.int x0), .val (.int x1), .val (.int x2), .val (.int (2 : Int32)), .val (.ref b51), .unset, .unset, .unset, .unset] [])
    refine g_iloadN X52 hx hby at_23 rfl (rfl : 23 + 1 = 24) ?_
    refine g_iconst X52 hx hby (1 : Int32) at_24 (by decide) (rfl : 24 + 1 = 25) ?_
    refine g_icF X52 hx hby at_25 (tlt (by decide : (1 : Int32) < (2 : Int32))).2.2.2 (rfl : 25 + 3 = 28) ?_
    refine g_aload X52 hx hby at_28 rfl rfl (rfl : 28 + 2 = 30) ?_
    refine g_iconst X52 hx hby (1 : Int32) at_30 (by decide) (rfl : 30 + 1 = 31) ?_
    refine g_iloadN X52 hx hby at_31 rfl (rfl : 31 + 1 = 32) ?_
    refine g_bipush X52 hx hby (8 : Int32) at_32 (by decide) (rfl : 32 + 2 = 34) ?_
    refine g_iushr X52 hx hby at_34 (rfl : 34 + 1 = 35) ?_
    refine g_i2b X52 hx hby at_35 (rfl : 35 + 1 = 36) ?_
    obtain ⟨T53, h53, X53, e53, W53, V53, st53⟩ := a_bastore X52 hx hby hZ e52 (ls := #[.val (.int x0), .val (.int x1), .val (.int x2), .val (.int (2 : Int32)), .val (.ref b51), .unset, .unset, .unset, .unset]) (st := []) (j := (1 : Int32)) (((x1.toUInt32 >>> ((8 : Int32) &&& 31).toUInt32).toInt32).toInt8.toInt32) 1 V52' ⟨by decide, by decide⟩ (by decide) (Nat.le_of_ble_eq_true rfl) at_36
    have Z53 : n0 ≤ h53.size := Nat.le_trans Z52 (Keep.of_wr W53).1
    have N53 := Fr.snoc X53 N52 ge51
    have V53' : Arv Z h53 b51 k51 .byte (2 : Int32) [(.int (x1.toInt8.toInt32)), (.int (((x1.toUInt32 >>> ((8 : Int32) &&& 31).toUInt32).toInt32).toInt8.toInt32))] (.int (0 : Int32)) := by have q := V53; rw [own_nb] at q; exact q
    refine own_go st53 ?_
    show own_Got p e below _ T53 (mkF m 37 #[.val (.int x0), .val (.int x1), .val (.int x2), .val (.int (2 : Int32)), .val (.ref b51), .unset, .unset, .unset, .unset] [])
    refine g_iloadN X53 hx hby at_37 rfl (rfl : 37 + 1 = 38) ?_
    refine g_iconst X53 hx hby (2 : Int32) at_38 (by decide) (rfl : 38 + 1 = 39) ?_
    refine g_icT X53 hx hby at_39 (flt (by decide : ¬ ((2 : Int32) < (2 : Int32)))).2.2.2 (by decide) (pc' := 51) (by decide) ?_
    refine g_iloadN X53 hx hby at_51 rfl (rfl : 51 + 1 = 52) ?_
    refine g_iconst X53 hx hby (3 : Int32) at_52 (by decide) (rfl : 52 + 1 = 53) ?_
    refine g_icT X53 hx hby at_53 (flt (by decide : ¬ ((3 : Int32) < (2 : Int32)))).2.2.2 (by decide) (pc' := 65) (by decide) ?_
    refine g_iloadN X53 hx hby at_65 rfl (rfl : 65 + 1 = 66) ?_
    refine g_iconst X53 hx hby (4 : Int32) at_66 (by decide) (rfl : 66 + 1 = 67) ?_
    refine g_icT X53 hx hby at_67 (flt (by decide : ¬ ((4 : Int32) < (2 : Int32)))).2.2.2 (by decide) (pc' := 76) (by decide) ?_
    refine g_iloadN X53 hx hby at_76 rfl (rfl : 76 + 1 = 77) ?_
    refine g_iconst X53 hx hby (5 : Int32) at_77 (by decide) (rfl : 77 + 1 = 78) ?_
    refine g_icT X53 hx hby at_78 (flt (by decide : ¬ ((5 : Int32) < (2 : Int32)))).2.2.2 (by decide) (pc' := 90) (by decide) ?_
    refine g_iloadN X53 hx hby at_90 rfl (rfl : 90 + 1 = 91) ?_
    refine g_bipush X53 hx hby (6 : Int32) at_91 (by decide) (rfl : 91 + 2 = 93) ?_
    refine g_icT X53 hx hby at_93 (flt (by decide : ¬ ((6 : Int32) < (2 : Int32)))).2.2.2 (by decide) (pc' := 106) (by decide) ?_
    refine g_iloadN X53 hx hby at_106 rfl (rfl : 106 + 1 = 107) ?_
    refine g_bipush X53 hx hby (7 : Int32) at_107 (by decide) (rfl : 107 + 2 = 109) ?_
    refine g_icT X53 hx hby at_109 (flt (by decide : ¬ ((7 : Int32) < (2 : Int32)))).2.2.2 (by decide) (pc' := 122) (by decide) ?_
    refine g_iconst X53 hx hby (4 : Int32) at_122 (by decide) (rfl : 122 + 1 = 123) ?_
    have f55 : Exa Z h53 b51 "[B" := (Exa.wr W53 (Exa.wr W52 B51))
    obtain ⟨T54, h54, k54, X54, e54, E54, A54, B54, st54⟩ := newPE X53 hx hZ (hw _ (List.mem_of_getElem? (i := 1) rfl)) e53 (g := (mkF m 123 #[.val (.int x0), .val (.int x1), .val (.int x2), .val (.int (2 : Int32)), .val (.ref b51), .unset, .unset, .unset, .unset] [(.int (4 : Int32))])) rfl (hb hby at_123) rfl (by decide) (cap := 4) (by decide) (by decide) (by decide) (by decide) (ad := "[B") (by decide +kernel)
    obtain ⟨b54, g54⟩ : ∃ z, z = h53.size := ⟨_, rfl⟩
    rw [← g54] at A54 B54 st54
    have ne56 : b51 ≠ b54 := Nat.ne_of_lt (Nat.lt_of_lt_of_le (f55).lt (Nat.le_of_eq g54.symm))
    have Z54 : n0 ≤ h54.size := Nat.le_trans Z53 E54.1
    have ge54 : n0 ≤ b54 := Nat.le_trans Z53 (Nat.le_of_eq g54.symm)
    have V54 : Arv Z h54 b54 k54 .byte (4 : Int32) [(.int (0 : Int32)), (.int (0 : Int32)), (.int (0 : Int32)), (.int (0 : Int32))] (.int (0 : Int32)) := (Arv.new A54 (by decide)).pad (pad_rep [] _ 4)
    refine own_go st54 ?_
    show own_Got p e below _ T54 (mkF m 125 #[.val (.int x0), .val (.int x1), .val (.int x2), .val (.int (2 : Int32)), .val (.ref b51), .unset, .unset, .unset, .unset] [(.ref b54)])
    refine g_astore X54 hx hby #[.val (.int x0), .val (.int x1), .val (.int x2), .val (.int (2 : Int32)), .val (.ref b51), .val (.ref b54), .unset, .unset, .unset] at_125 rfl rfl (rfl : 125 + 2 = 127) ?_
    refine g_aload X54 hx hby at_127 rfl rfl (rfl : 127 + 2 = 129) ?_
    refine g_iconst X54 hx hby (0 : Int32) at_129 (by decide) (rfl : 129 + 1 = 130) ?_
    refine g_iloadN X54 hx hby at_130 rfl (rfl : 130 + 1 = 131) ?_
    refine g_i2b X54 hx hby at_131 (rfl : 131 + 1 = 132) ?_
    obtain ⟨T57, h57, X57, e57, W57, V57, st57⟩ := a_bastore X54 hx hby hZ e54 (ls := #[.val (.int x0), .val (.int x1), .val (.int x2), .val (.int (2 : Int32)), .val (.ref b51), .val (.ref b54), .unset, .unset, .unset]) (st := []) (j := (0 : Int32)) (x1.toInt8.toInt32) 0 V54 ⟨by decide, by decide⟩ (by decide) (Nat.le_of_ble_eq_true rfl) at_132
    have Z57 : n0 ≤ h57.size := Nat.le_trans Z54 (Keep.of_wr W57).1
    have N57 := Fr.snoc X57 N53 ge54
    have V57' : Arv Z h57 b54 k54 .byte (4 : Int32) [(.int (x1.toInt8.toInt32)), (.int (0 : Int32)), (.int (0 : Int32)), (.int (0 : Int32))] (.int (0 : Int32)) := by have q := V57; rw [own_nb] at q; exact q
    refine own_go st57 ?_
    show own_Got p e below _ T57 (mkF m 133 #[.val (.int x0), .val (.int x1), .val (.int x2), .val (.int (2 : Int32)), .val (.ref b51), .val (.ref b54), .unset, .unset, .unset] [])
    refine g_aload X57 hx hby at_133 rfl rfl (rfl : 133 + 2 = 135) ?_
    refine g_iconst X57 hx hby (1 : Int32) at_135 (by decide) (rfl : 135 + 1 = 136) ?_
    refine g_iloadN X57 hx hby at_136 rfl (rfl : 136 + 1 = 137) ?_
    refine g_bipush X57 hx hby (8 : Int32) at_137 (by decide) (rfl : 137 + 2 = 139) ?_
    refine g_iushr X57 hx hby at_139 (rfl : 139 + 1 = 140) ?_
    refine g_i2b X57 hx hby at_140 (rfl : 140 + 1 = 141) ?_
    obtain ⟨T58, h58, X58, e58, W58, V58, st58⟩ := a_bastore X57 hx hby hZ e57 (ls := #[.val (.int x0), .val (.int x1), .val (.int x2), .val (.int (2 : Int32)), .val (.ref b51), .val (.ref b54), .unset, .unset, .unset]) (st := []) (j := (1 : Int32)) (((x1.toUInt32 >>> ((8 : Int32) &&& 31).toUInt32).toInt32).toInt8.toInt32) 1 V57' ⟨by decide, by decide⟩ (by decide) (Nat.le_of_ble_eq_true rfl) at_141
    have Z58 : n0 ≤ h58.size := Nat.le_trans Z57 (Keep.of_wr W58).1
    have N58 := Fr.snoc X58 N57 ge54
    have V58' : Arv Z h58 b54 k54 .byte (4 : Int32) [(.int (x1.toInt8.toInt32)), (.int (((x1.toUInt32 >>> ((8 : Int32) &&& 31).toUInt32).toInt32).toInt8.toInt32)), (.int (0 : Int32)), (.int (0 : Int32))] (.int (0 : Int32)) := by have q := V58; rw [own_nb] at q; exact q
    refine own_go st58 ?_
    show own_Got p e below _ T58 (mkF m 142 #[.val (.int x0), .val (.int x1), .val (.int x2), .val (.int (2 : Int32)), .val (.ref b51), .val (.ref b54), .unset, .unset, .unset] [])
    refine g_aload X58 hx hby at_142 rfl rfl (rfl : 142 + 2 = 144) ?_
    refine g_iconst X58 hx hby (2 : Int32) at_144 (by decide) (rfl : 144 + 1 = 145) ?_
    refine g_iloadN X58 hx hby at_145 rfl (rfl : 145 + 1 = 146) ?_
    refine g_bipush X58 hx hby (16 : Int32) at_146 (by decide) (rfl : 146 + 2 = 148) ?_
    refine g_iushr X58 hx hby at_148 (rfl : 148 + 1 = 149) ?_
    refine g_i2b X58 hx hby at_149 (rfl : 149 + 1 = 150) ?_
    obtain ⟨T59, h59, X59, e59, W59, V59, st59⟩ := a_bastore X58 hx hby hZ e58 (ls := #[.val (.int x0), .val (.int x1), .val (.int x2), .val (.int (2 : Int32)), .val (.ref b51), .val (.ref b54), .unset, .unset, .unset]) (st := []) (j := (2 : Int32)) (((x1.toUInt32 >>> ((16 : Int32) &&& 31).toUInt32).toInt32).toInt8.toInt32) 2 V58' ⟨by decide, by decide⟩ (by decide) (Nat.le_of_ble_eq_true rfl) at_150
    have Z59 : n0 ≤ h59.size := Nat.le_trans Z58 (Keep.of_wr W59).1
    have N59 := Fr.snoc X59 N58 ge54
    have V59' : Arv Z h59 b54 k54 .byte (4 : Int32) [(.int (x1.toInt8.toInt32)), (.int (((x1.toUInt32 >>> ((8 : Int32) &&& 31).toUInt32).toInt32).toInt8.toInt32)), (.int (((x1.toUInt32 >>> ((16 : Int32) &&& 31).toUInt32).toInt32).toInt8.toInt32)), (.int (0 : Int32))] (.int (0 : Int32)) := by have q := V59; rw [own_nb] at q; exact q
    refine own_go st59 ?_
    show own_Got p e below _ T59 (mkF m 151 #[.val (.int x0), .val (.int x1), .val (.int x2), .val (.int (2 : Int32)), .val (.ref b51), .val (.ref b54), .unset, .unset, .unset] [])
    refine g_aload X59 hx hby at_151 rfl rfl (rfl : 151 + 2 = 153) ?_
    refine g_iconst X59 hx hby (3 : Int32) at_153 (by decide) (rfl : 153 + 1 = 154) ?_
    refine g_iloadN X59 hx hby at_154 rfl (rfl : 154 + 1 = 155) ?_
    refine g_bipush X59 hx hby (24 : Int32) at_155 (by decide) (rfl : 155 + 2 = 157) ?_
    refine g_iushr X59 hx hby at_157 (rfl : 157 + 1 = 158) ?_
    refine g_i2b X59 hx hby at_158 (rfl : 158 + 1 = 159) ?_
    obtain ⟨T60, h60, X60, e60, W60, V60, st60⟩ := a_bastore X59 hx hby hZ e59 (ls := #[.val (.int x0), .val (.int x1), .val (.int x2), .val (.int (2 : Int32)), .val (.ref b51), .val (.ref b54), .unset, .unset, .unset]) (st := []) (j := (3 : Int32)) (((x1.toUInt32 >>> ((24 : Int32) &&& 31).toUInt32).toInt32).toInt8.toInt32) 3 V59' ⟨by decide, by decide⟩ (by decide) (Nat.le_of_ble_eq_true rfl) at_159
    have Z60 : n0 ≤ h60.size := Nat.le_trans Z59 (Keep.of_wr W60).1
    have N60 := Fr.snoc X60 N59 ge54
    have V60' : Arv Z h60 b54 k54 .byte (4 : Int32) [(.int (x1.toInt8.toInt32)), (.int (((x1.toUInt32 >>> ((8 : Int32) &&& 31).toUInt32).toInt32).toInt8.toInt32)), (.int (((x1.toUInt32 >>> ((16 : Int32) &&& 31).toUInt32).toInt32).toInt8.toInt32)), (.int (((x1.toUInt32 >>> ((24 : Int32) &&& 31).toUInt32).toInt32).toInt8.toInt32))] (.int (0 : Int32)) := by have q := V60; rw [own_nb] at q; exact q
    refine own_go st60 ?_
    show own_Got p e below _ T60 (mkF m 160 #[.val (.int x0), .val (.int x1), .val (.int x2), .val (.int (2 : Int32)), .val (.ref b51), .val (.ref b54), .unset, .unset, .unset] [])
    refine g_aload X60 hx hby at_160 rfl rfl (rfl : 160 + 2 = 162) ?_
    have f62 : Arv Z h60 b51 k51 .byte (2 : Int32) [(.int (x1.toInt8.toInt32)), (.int (((x1.toUInt32 >>> ((8 : Int32) &&& 31).toUInt32).toInt32).toInt8.toInt32))] (.int (0 : Int32)) := (Arv.other (Arv.other (Arv.other (Arv.other (V53'.ext E54) W57 ne56) W58 ne56) W59 ne56) W60 ne56)
    obtain ⟨_, _, ⟨T61, L61, k61, n61⟩, -, X61, ⟨Lc61, hQ61, l61, y61, z61⟩, st61⟩ := Jvm.LawKit.callS X60 hx (y := (⟨"com/example/farshard/farshard/store/Murmur3", "hash32", "([B)I"⟩ : MethodName)) hown (mvT hZ (hw _ (List.mem_of_getElem? (i := 2) rfl))) (mvT hZ (hw _ (List.mem_of_getElem? (i := 3) rfl))) (mvT hZ (hw _ (List.mem_of_getElem? (i := 4) rfl))) (mvT hZ (hw _ (List.mem_of_getElem? (i := 5) rfl))) (by decide) (backOf (W := 0) (rm_hs2 l Z aT hw [] b51 k51 (x1.toInt8.toInt32) (((x1.toUInt32 >>> ((8 : Int32) &&& 31).toUInt32).toInt32).toInt8.toInt32) h60 n0 Z60 f62) hZ (hw _ (List.mem_of_getElem? (i := 5) rfl)) (hw _ (List.mem_of_getElem? (i := 4) rfl)) (by decide) (by decide)) (g := (mkF m 162 #[.val (.int x0), .val (.int x1), .val (.int x2), .val (.int (2 : Int32)), .val (.ref b51), .val (.ref b54), .unset, .unset, .unset] [(.ref b51)])) rfl (by rw [hml]; rfl) (argsL := [(.ref b51)]) (rest := []) (lenOf pd2 rfl) rfl (by show 2 * 0 + _ ≤ _; exact Nat.le_of_eq rfl) (hb hby at_162) (fun _ _ => ⟨rfl, e60, (by decide : 2 + 0 ≤ _), (by decide : 6 + 0 ≤ _)⟩)
    dsimp only [Pt.U, Pt.locs, Pt.cells, Pt.slots] at X61 l61 y61 z61 st61 hQ61
    subst l61 y61 z61
    obtain ⟨rfl, N61q, eq61⟩ := hQ61
    have N61 := Fr.app N60 N61q
    refine own_go st61 ?_
    show own_Got p e below _ T61 (mkF m 165 #[.val (.int x0), .val (.int x1), .val (.int x2), .val (.int (2 : Int32)), .val (.ref b51), .val (.ref b54), .unset, .unset, .unset] [(.int (F_hs2 (x1.toInt8.toInt32) (((x1.toUInt32 >>> ((8 : Int32) &&& 31).toUInt32).toInt32).toInt8.toInt32)))])
    refine g_istore X61 hx hby #[.val (.int x0), .val (.int x1), .val (.int x2), .val (.int (2 : Int32)), .val (.ref b51), .val (.ref b54), .val (.int (F_hs2 (x1.toInt8.toInt32) (((x1.toUInt32 >>> ((8 : Int32) &&& 31).toUInt32).toInt32).toInt8.toInt32))), .unset, .unset] at_165 rfl (rfl : 165 + 2 = 167) ?_
    refine g_iload X61 hx hby at_167 rfl (rfl : 167 + 2 = 169) ?_
    obtain ⟨_, _, ⟨T63, L63, k63, n63⟩, -, X63, ⟨Lc63, hQ63, l63, y63, z63⟩, st63⟩ := Jvm.LawKit.callS X61 hx (y := (⟨"com/example/farshard/farshard/store/Murmur3Hash32PinLaw", "invFmix", "(I)I"⟩ : MethodName)) hown (mvT hZ (hw _ (List.mem_of_getElem? (i := 8) rfl))) (mvT hZ (hw _ (List.mem_of_getElem? (i := 9) rfl))) (mvT hZ (hw _ (List.mem_of_getElem? (i := 10) rfl))) (mvT hZ (hw _ (List.mem_of_getElem? (i := 11) rfl))) (by decide) (backOf (W := 0) (rm_ifx l Z aT hw [] (F_hs2 (x1.toInt8.toInt32) (((x1.toUInt32 >>> ((8 : Int32) &&& 31).toUInt32).toInt32).toInt8.toInt32)) h60 n0 Z60) hZ (hw _ (List.mem_of_getElem? (i := 11) rfl)) (hw _ (List.mem_of_getElem? (i := 10) rfl)) (by decide) (by decide)) (g := (mkF m 169 #[.val (.int x0), .val (.int x1), .val (.int x2), .val (.int (2 : Int32)), .val (.ref b51), .val (.ref b54), .val (.int (F_hs2 (x1.toInt8.toInt32) (((x1.toUInt32 >>> ((8 : Int32) &&& 31).toUInt32).toInt32).toInt8.toInt32))), .unset, .unset] [(.int (F_hs2 (x1.toInt8.toInt32) (((x1.toUInt32 >>> ((8 : Int32) &&& 31).toUInt32).toInt32).toInt8.toInt32)))])) rfl (by rw [hml]; rfl) (argsL := [(.int (F_hs2 (x1.toInt8.toInt32) (((x1.toUInt32 >>> ((8 : Int32) &&& 31).toUInt32).toInt32).toInt8.toInt32)))]) (rest := []) (lenOf pd1 rfl) rfl (by show 2 * 0 + _ ≤ _; exact Nat.le_of_eq rfl) (hb hby at_169) (fun _ _ => ⟨rfl, eq61, (by decide : 2 + 0 ≤ _), (by decide : 6 + 0 ≤ _)⟩)
    dsimp only [Pt.U, Pt.locs, Pt.cells, Pt.slots] at X63 l63 y63 z63 st63 hQ63
    subst l63 y63 z63
    obtain ⟨rfl, N63q, eq63⟩ := hQ63
    have N63 := Fr.app N61 N63q
    refine own_go st63 ?_
    show own_Got p e below _ T63 (mkF m 172 #[.val (.int x0), .val (.int x1), .val (.int x2), .val (.int (2 : Int32)), .val (.ref b51), .val (.ref b54), .val (.int (F_hs2 (x1.toInt8.toInt32) (((x1.toUInt32 >>> ((8 : Int32) &&& 31).toUInt32).toInt32).toInt8.toInt32))), .unset, .unset] [(.int (F_ifx (F_hs2 (x1.toInt8.toInt32) (((x1.toUInt32 >>> ((8 : Int32) &&& 31).toUInt32).toInt32).toInt8.toInt32))))])
    refine g_iloadN X63 hx hby at_172 rfl (rfl : 172 + 1 = 173) ?_
    refine g_ixor X63 hx hby at_173 (rfl : 173 + 1 = 174) ?_
    refine g_istore X63 hx hby #[.val (.int x0), .val (.int x1), .val (.int x2), .val (.int (2 : Int32)), .val (.ref b51), .val (.ref b54), .val (.int (F_hs2 (x1.toInt8.toInt32) (((x1.toUInt32 >>> ((8 : Int32) &&& 31).toUInt32).toInt32).toInt8.toInt32))), .val (.int ((F_ifx (F_hs2 (x1.toInt8.toInt32) (((x1.toUInt32 >>> ((8 : Int32) &&& 31).toUInt32).toInt32).toInt8.toInt32))) ^^^ (2 : Int32))), .unset] at_174 rfl (rfl : 174 + 2 = 176) ?_
    refine g_iloadN X63 hx hby at_176 rfl (rfl : 176 + 1 = 177) ?_
    refine g_ifT X63 hx hby at_177 ((if0 _ _).trans (feq (by decide : ¬ ((2 : Int32) = (0 : Int32)))).2) (by decide) (pc' := 191) (by decide) ?_
    refine g_iloadN X63 hx hby at_191 rfl (rfl : 191 + 1 = 192) ?_
    refine g_iconst X63 hx hby (4 : Int32) at_192 (by decide) (rfl : 192 + 1 = 193) ?_
    refine g_icF X63 hx hby at_193 (tlt (by decide : (2 : Int32) < (4 : Int32))).2.1 (rfl : 193 + 3 = 196) ?_
    refine g_iload X63 hx hby at_196 rfl (rfl : 196 + 2 = 198) ?_
    obtain ⟨_, _, ⟨T64, L64, k64, n64⟩, -, X64, ⟨Lc64, hQ64, l64, y64, z64⟩, st64⟩ := Jvm.LawKit.callS X63 hx (y := (⟨"com/example/farshard/farshard/store/Murmur3Hash32PinLaw", "invMix", "(I)I"⟩ : MethodName)) hown (mvT hZ (hw _ (List.mem_of_getElem? (i := 26) rfl))) (mvT hZ (hw _ (List.mem_of_getElem? (i := 27) rfl))) (mvT hZ (hw _ (List.mem_of_getElem? (i := 10) rfl))) (mvT hZ (hw _ (List.mem_of_getElem? (i := 28) rfl))) (by decide) (backOf (W := 0) (rm_imx l Z aT hw [] ((F_ifx (F_hs2 (x1.toInt8.toInt32) (((x1.toUInt32 >>> ((8 : Int32) &&& 31).toUInt32).toInt32).toInt8.toInt32))) ^^^ (2 : Int32)) h60 n0 Z60) hZ (hw _ (List.mem_of_getElem? (i := 28) rfl)) (hw _ (List.mem_of_getElem? (i := 10) rfl)) (by decide) (by decide)) (g := (mkF m 198 #[.val (.int x0), .val (.int x1), .val (.int x2), .val (.int (2 : Int32)), .val (.ref b51), .val (.ref b54), .val (.int (F_hs2 (x1.toInt8.toInt32) (((x1.toUInt32 >>> ((8 : Int32) &&& 31).toUInt32).toInt32).toInt8.toInt32))), .val (.int ((F_ifx (F_hs2 (x1.toInt8.toInt32) (((x1.toUInt32 >>> ((8 : Int32) &&& 31).toUInt32).toInt32).toInt8.toInt32))) ^^^ (2 : Int32))), .unset] [(.int ((F_ifx (F_hs2 (x1.toInt8.toInt32) (((x1.toUInt32 >>> ((8 : Int32) &&& 31).toUInt32).toInt32).toInt8.toInt32))) ^^^ (2 : Int32)))])) rfl (by rw [hml]; rfl) (argsL := [(.int ((F_ifx (F_hs2 (x1.toInt8.toInt32) (((x1.toUInt32 >>> ((8 : Int32) &&& 31).toUInt32).toInt32).toInt8.toInt32))) ^^^ (2 : Int32)))]) (rest := []) (lenOf pd1 rfl) rfl (by show 2 * 0 + _ ≤ _; exact Nat.le_of_eq rfl) (hb hby at_198) (fun _ _ => ⟨rfl, eq63, (by decide : 2 + 0 ≤ _), (by decide : 6 + 0 ≤ _)⟩)
    dsimp only [Pt.U, Pt.locs, Pt.cells, Pt.slots] at X64 l64 y64 z64 st64 hQ64
    subst l64 y64 z64
    obtain ⟨rfl, N64q, eq64⟩ := hQ64
    have N64 := Fr.app N63 N64q
    refine own_go st64 ?_
    show own_Got p e below _ T64 (mkF m 201 #[.val (.int x0), .val (.int x1), .val (.int x2), .val (.int (2 : Int32)), .val (.ref b51), .val (.ref b54), .val (.int (F_hs2 (x1.toInt8.toInt32) (((x1.toUInt32 >>> ((8 : Int32) &&& 31).toUInt32).toInt32).toInt8.toInt32))), .val (.int ((F_ifx (F_hs2 (x1.toInt8.toInt32) (((x1.toUInt32 >>> ((8 : Int32) &&& 31).toUInt32).toInt32).toInt8.toInt32))) ^^^ (2 : Int32))), .unset] [(.int (F_imx ((F_ifx (F_hs2 (x1.toInt8.toInt32) (((x1.toUInt32 >>> ((8 : Int32) &&& 31).toUInt32).toInt32).toInt8.toInt32))) ^^^ (2 : Int32))))])
    refine g_iloadN X64 hx hby at_201 rfl (rfl : 201 + 1 = 202) ?_
    refine g_iconst X64 hx hby (1 : Int32) at_202 (by decide) (rfl : 202 + 1 = 203) ?_
    refine g_bipush X64 hx hby (8 : Int32) at_203 (by decide) (rfl : 203 + 2 = 205) ?_
    refine g_iloadN X64 hx hby at_205 rfl (rfl : 205 + 1 = 206) ?_
    refine g_imul X64 hx hby at_206 (rfl : 206 + 1 = 207) ?_
    rw [(by decide : ((8 : Int32) * (2 : Int32)) = (16 : Int32))]
    refine g_ishl X64 hx hby at_207 (rfl : 207 + 1 = 208) ?_
    rw [(by decide : ((1 : Int32) <<< ((16 : Int32) &&& 31)) = (65536 : Int32))]
    refine g_iconst X64 hx hby (1 : Int32) at_208 (by decide) (rfl : 208 + 1 = 209) ?_
    refine g_isub X64 hx hby at_209 (rfl : 209 + 1 = 210) ?_
    rw [(by decide : ((65536 : Int32) - (1 : Int32)) = (65535 : Int32))]
    refine g_iand X64 hx hby at_210 (rfl : 210 + 1 = 211) ?_
    have c65 : (F_imx ((F_ifx (F_hs2 (x1.toInt8.toInt32) (((x1.toUInt32 >>> ((8 : Int32) &&& 31).toUInt32).toInt32).toInt8.toInt32))) ^^^ (2 : Int32))) = (x1 &&& (65535 : Int32)) := own_h2 x1
    refine g_icF X64 hx hby at_211 (teq c65).2 (rfl : 211 + 3 = 214) ?_
    refine g_iconst X64 hx hby (1 : Int32) at_214 (by decide) (rfl : 214 + 1 = 215) ?_
    refine g_goto X64 hx hby at_215 (by decide) (pc' := 219) (by decide) ?_
    refine own_retN X64 hx hby hlk (t := .boolean) hrt (by simp) at_219 (by decide) (by decide) ?_
    show Q_law Z x0 x1 x2 h0 n0 _ T64.heap _
    exact ⟨rfl, N64⟩
  · rw [hk25]
    refine g_iloadN X0 hx hby at_8 rfl (rfl : 8 + 1 = 9) ?_
    obtain ⟨T66, h66, k66, X66, e66, E66, A66, B66, st66⟩ := newPE X0 hx hZ (hw _ (List.mem_of_getElem? (i := 1) rfl)) e0 (g := (mkF m 9 #[.val (.int x0), .val (.int x1), .val (.int x2), .val (.int (3 : Int32)), .unset, .unset, .unset, .unset, .unset] [(.int (3 : Int32))])) rfl (hb hby at_9) rfl (by decide) (cap := 3) (by decide) (by decide) (by decide) (by decide) (ad := "[B") (by decide +kernel)
    obtain ⟨b66, g66⟩ : ∃ z, z = h0.size := ⟨_, rfl⟩
    rw [← g66] at A66 B66 st66
    have Z66 : n0 ≤ h66.size := Nat.le_trans Z0 E66.1
    have ge66 : n0 ≤ b66 := Nat.le_trans Z0 (Nat.le_of_eq g66.symm)
    have V66 : Arv Z h66 b66 k66 .byte (3 : Int32) [(.int (0 : Int32)), (.int (0 : Int32)), (.int (0 : Int32))] (.int (0 : Int32)) := (Arv.new A66 (by decide)).pad (pad_rep [] _ 3)
    refine own_go st66 ?_
    show own_Got p e below _ T66 (mkF m 11 #[.val (.int x0), .val (.int x1), .val (.int x2), .val (.int (3 : Int32)), .unset, .unset, .unset, .unset, .unset] [(.ref b66)])
    refine g_astore X66 hx hby #[.val (.int x0), .val (.int x1), .val (.int x2), .val (.int (3 : Int32)), .val (.ref b66), .unset, .unset, .unset, .unset] at_11 rfl rfl (rfl : 11 + 2 = 13) ?_
    refine g_iloadN X66 hx hby at_13 rfl (rfl : 13 + 1 = 14) ?_
    refine g_ifF X66 hx hby at_14 ((if0 _ _).trans (tlt (by decide : (0 : Int32) < (3 : Int32))).2.2.2) (rfl : 14 + 3 = 17) ?_
    refine g_aload X66 hx hby at_17 rfl rfl (rfl : 17 + 2 = 19) ?_
    refine g_iconst X66 hx hby (0 : Int32) at_19 (by decide) (rfl : 19 + 1 = 20) ?_
    refine g_iloadN X66 hx hby at_20 rfl (rfl : 20 + 1 = 21) ?_
    refine g_i2b X66 hx hby at_21 (rfl : 21 + 1 = 22) ?_
    obtain ⟨T67, h67, X67, e67, W67, V67, st67⟩ := a_bastore X66 hx hby hZ e66 (ls := #[.val (.int x0), .val (.int x1), .val (.int x2), .val (.int (3 : Int32)), .val (.ref b66), .unset, .unset, .unset, .unset]) (st := []) (j := (0 : Int32)) (x1.toInt8.toInt32) 0 V66 ⟨by decide, by decide⟩ (by decide) (Nat.le_of_ble_eq_true rfl) at_22
    have Z67 : n0 ≤ h67.size := Nat.le_trans Z66 (Keep.of_wr W67).1
    have N67 := Fr.snoc X67 N0 ge66
    have V67' : Arv Z h67 b66 k66 .byte (3 : Int32) [(.int (x1.toInt8.toInt32)), (.int (0 : Int32)), (.int (0 : Int32))] (.int (0 : Int32)) := by have q := V67; rw [own_nb] at q; exact q
    refine own_go st67 ?_
    show own_Got p e below _ T67 (mkF m 23 #[.val (.int x0), .val (.int x1), .val (.int x2), .val (.int (3 : Int32)), .val (.ref b66), .unset, .unset, .unset, .unset] [])
    refine g_iloadN X67 hx hby at_23 rfl (rfl : 23 + 1 = 24) ?_
    refine g_iconst X67 hx hby (1 : Int32) at_24 (by decide) (rfl : 24 + 1 = 25) ?_
    refine g_icF X67 hx hby at_25 (tlt (by decide : (1 : Int32) < (3 : Int32))).2.2.2 (rfl : 25 + 3 = 28) ?_
    refine g_aload X67 hx hby at_28 rfl rfl (rfl : 28 + 2 = 30) ?_
    refine g_iconst X67 hx hby (1 : Int32) at_30 (by decide) (rfl : 30 + 1 = 31) ?_
    refine g_iloadN X67 hx hby at_31 rfl (rfl : 31 + 1 = 32) ?_
    refine g_bipush X67 hx hby (8 : Int32) at_32 (by decide) (rfl : 32 + 2 = 34) ?_
    refine g_iushr X67 hx hby at_34 (rfl : 34 + 1 = 35) ?_
    refine g_i2b X67 hx hby at_35 (rfl : 35 + 1 = 36) ?_
    obtain ⟨T68, h68, X68, e68, W68, V68, st68⟩ := a_bastore X67 hx hby hZ e67 (ls := #[.val (.int x0), .val (.int x1), .val (.int x2), .val (.int (3 : Int32)), .val (.ref b66), .unset, .unset, .unset, .unset]) (st := []) (j := (1 : Int32)) (((x1.toUInt32 >>> ((8 : Int32) &&& 31).toUInt32).toInt32).toInt8.toInt32) 1 V67' ⟨by decide, by decide⟩ (by decide) (Nat.le_of_ble_eq_true rfl) at_36
    have Z68 : n0 ≤ h68.size := Nat.le_trans Z67 (Keep.of_wr W68).1
    have N68 := Fr.snoc X68 N67 ge66
    have V68' : Arv Z h68 b66 k66 .byte (3 : Int32) [(.int (x1.toInt8.toInt32)), (.int (((x1.toUInt32 >>> ((8 : Int32) &&& 31).toUInt32).toInt32).toInt8.toInt32)), (.int (0 : Int32))] (.int (0 : Int32)) := by have q := V68; rw [own_nb] at q; exact q
    refine own_go st68 ?_
    show own_Got p e below _ T68 (mkF m 37 #[.val (.int x0), .val (.int x1), .val (.int x2), .val (.int (3 : Int32)), .val (.ref b66), .unset, .unset, .unset, .unset] [])
    refine g_iloadN X68 hx hby at_37 rfl (rfl : 37 + 1 = 38) ?_
    refine g_iconst X68 hx hby (2 : Int32) at_38 (by decide) (rfl : 38 + 1 = 39) ?_
    refine g_icF X68 hx hby at_39 (tlt (by decide : (2 : Int32) < (3 : Int32))).2.2.2 (rfl : 39 + 3 = 42) ?_
    refine g_aload X68 hx hby at_42 rfl rfl (rfl : 42 + 2 = 44) ?_
    refine g_iconst X68 hx hby (2 : Int32) at_44 (by decide) (rfl : 44 + 1 = 45) ?_
    refine g_iloadN X68 hx hby at_45 rfl (rfl : 45 + 1 = 46) ?_
    refine g_bipush X68 hx hby (16 : Int32) at_46 (by decide) (rfl : 46 + 2 = 48) ?_
    refine g_iushr X68 hx hby at_48 (rfl : 48 + 1 = 49) ?_
    refine g_i2b X68 hx hby at_49 (rfl : 49 + 1 = 50) ?_
    obtain ⟨T69, h69, X69, e69, W69, V69, st69⟩ := a_bastore X68 hx hby hZ e68 (ls := #[.val (.int x0), .val (.int x1), .val (.int x2), .val (.int (3 : Int32)), .val (.ref b66), .unset, .unset, .unset, .unset]) (st := []) (j := (2 : Int32)) (((x1.toUInt32 >>> ((16 : Int32) &&& 31).toUInt32).toInt32).toInt8.toInt32) 2 V68' ⟨by decide, by decide⟩ (by decide) (Nat.le_of_ble_eq_true rfl) at_50
    have Z69 : n0 ≤ h69.size := Nat.le_trans Z68 (Keep.of_wr W69).1
    have N69 := Fr.snoc X69 N68 ge66
    have V69' : Arv Z h69 b66 k66 .byte (3 : Int32) [(.int (x1.toInt8.toInt32)), (.int (((x1.toUInt32 >>> ((8 : Int32) &&& 31).toUInt32).toInt32).toInt8.toInt32)), (.int (((x1.toUInt32 >>> ((16 : Int32) &&& 31).toUInt32).toInt32).toInt8.toInt32))] (.int (0 : Int32)) := by have q := V69; rw [own_nb] at q; exact q
    refine own_go st69 ?_
    show own_Got p e below _ T69 (mkF m 51 #[.val (.int x0), .val (.int x1), .val (.int x2), .val (.int (3 : Int32)), .val (.ref b66), .unset, .unset, .unset, .unset] [])
    refine g_iloadN X69 hx hby at_51 rfl (rfl : 51 + 1 = 52) ?_
    refine g_iconst X69 hx hby (3 : Int32) at_52 (by decide) (rfl : 52 + 1 = 53) ?_
    refine g_icT X69 hx hby at_53 (flt (by decide : ¬ ((3 : Int32) < (3 : Int32)))).2.2.2 (by decide) (pc' := 65) (by decide) ?_
    refine g_iloadN X69 hx hby at_65 rfl (rfl : 65 + 1 = 66) ?_
    refine g_iconst X69 hx hby (4 : Int32) at_66 (by decide) (rfl : 66 + 1 = 67) ?_
    refine g_icT X69 hx hby at_67 (flt (by decide : ¬ ((4 : Int32) < (3 : Int32)))).2.2.2 (by decide) (pc' := 76) (by decide) ?_
    refine g_iloadN X69 hx hby at_76 rfl (rfl : 76 + 1 = 77) ?_
    refine g_iconst X69 hx hby (5 : Int32) at_77 (by decide) (rfl : 77 + 1 = 78) ?_
    refine g_icT X69 hx hby at_78 (flt (by decide : ¬ ((5 : Int32) < (3 : Int32)))).2.2.2 (by decide) (pc' := 90) (by decide) ?_
    refine g_iloadN X69 hx hby at_90 rfl (rfl : 90 + 1 = 91) ?_
    refine g_bipush X69 hx hby (6 : Int32) at_91 (by decide) (rfl : 91 + 2 = 93) ?_
    refine g_icT X69 hx hby at_93 (flt (by decide : ¬ ((6 : Int32) < (3 : Int32)))).2.2.2 (by decide) (pc' := 106) (by decide) ?_
    refine g_iloadN X69 hx hby at_106 rfl (rfl : 106 + 1 = 107) ?_
    refine g_bipush X69 hx hby (7 : Int32) at_107 (by decide) (rfl : 107 + 2 = 109) ?_
    refine g_icT X69 hx hby at_109 (flt (by decide : ¬ ((7 : Int32) < (3 : Int32)))).2.2.2 (by decide) (pc' := 122) (by decide) ?_
    refine g_iconst X69 hx hby (4 : Int32) at_122 (by decide) (rfl : 122 + 1 = 123) ?_
    have f71 : Exa Z h69 b66 "[B" := (Exa.wr W69 (Exa.wr W68 (Exa.wr W67 B66)))
    obtain ⟨T70, h70, k70, X70, e70, E70, A70, B70, st70⟩ := newPE X69 hx hZ (hw _ (List.mem_of_getElem? (i := 1) rfl)) e69 (g := (mkF m 123 #[.val (.int x0), .val (.int x1), .val (.int x2), .val (.int (3 : Int32)), .val (.ref b66), .unset, .unset, .unset, .unset] [(.int (4 : Int32))])) rfl (hb hby at_123) rfl (by decide) (cap := 4) (by decide) (by decide) (by decide) (by decide) (ad := "[B") (by decide +kernel)
    obtain ⟨b70, g70⟩ : ∃ z, z = h69.size := ⟨_, rfl⟩
    rw [← g70] at A70 B70 st70
    have ne72 : b66 ≠ b70 := Nat.ne_of_lt (Nat.lt_of_lt_of_le (f71).lt (Nat.le_of_eq g70.symm))
    have Z70 : n0 ≤ h70.size := Nat.le_trans Z69 E70.1
    have ge70 : n0 ≤ b70 := Nat.le_trans Z69 (Nat.le_of_eq g70.symm)
    have V70 : Arv Z h70 b70 k70 .byte (4 : Int32) [(.int (0 : Int32)), (.int (0 : Int32)), (.int (0 : Int32)), (.int (0 : Int32))] (.int (0 : Int32)) := (Arv.new A70 (by decide)).pad (pad_rep [] _ 4)
    refine own_go st70 ?_
    show own_Got p e below _ T70 (mkF m 125 #[.val (.int x0), .val (.int x1), .val (.int x2), .val (.int (3 : Int32)), .val (.ref b66), .unset, .unset, .unset, .unset] [(.ref b70)])
    refine g_astore X70 hx hby #[.val (.int x0), .val (.int x1), .val (.int x2), .val (.int (3 : Int32)), .val (.ref b66), .val (.ref b70), .unset, .unset, .unset] at_125 rfl rfl (rfl : 125 + 2 = 127) ?_
    refine g_aload X70 hx hby at_127 rfl rfl (rfl : 127 + 2 = 129) ?_
    refine g_iconst X70 hx hby (0 : Int32) at_129 (by decide) (rfl : 129 + 1 = 130) ?_
    refine g_iloadN X70 hx hby at_130 rfl (rfl : 130 + 1 = 131) ?_
    refine g_i2b X70 hx hby at_131 (rfl : 131 + 1 = 132) ?_
    obtain ⟨T73, h73, X73, e73, W73, V73, st73⟩ := a_bastore X70 hx hby hZ e70 (ls := #[.val (.int x0), .val (.int x1), .val (.int x2), .val (.int (3 : Int32)), .val (.ref b66), .val (.ref b70), .unset, .unset, .unset]) (st := []) (j := (0 : Int32)) (x1.toInt8.toInt32) 0 V70 ⟨by decide, by decide⟩ (by decide) (Nat.le_of_ble_eq_true rfl) at_132
    have Z73 : n0 ≤ h73.size := Nat.le_trans Z70 (Keep.of_wr W73).1
    have N73 := Fr.snoc X73 N69 ge70
    have V73' : Arv Z h73 b70 k70 .byte (4 : Int32) [(.int (x1.toInt8.toInt32)), (.int (0 : Int32)), (.int (0 : Int32)), (.int (0 : Int32))] (.int (0 : Int32)) := by have q := V73; rw [own_nb] at q; exact q
    refine own_go st73 ?_
    show own_Got p e below _ T73 (mkF m 133 #[.val (.int x0), .val (.int x1), .val (.int x2), .val (.int (3 : Int32)), .val (.ref b66), .val (.ref b70), .unset, .unset, .unset] [])
    refine g_aload X73 hx hby at_133 rfl rfl (rfl : 133 + 2 = 135) ?_
    refine g_iconst X73 hx hby (1 : Int32) at_135 (by decide) (rfl : 135 + 1 = 136) ?_
    refine g_iloadN X73 hx hby at_136 rfl (rfl : 136 + 1 = 137) ?_
    refine g_bipush X73 hx hby (8 : Int32) at_137 (by decide) (rfl : 137 + 2 = 139) ?_
    refine g_iushr X73 hx hby at_139 (rfl : 139 + 1 = 140) ?_
    refine g_i2b X73 hx hby at_140 (rfl : 140 + 1 = 141) ?_
    obtain ⟨T74, h74, X74, e74, W74, V74, st74⟩ := a_bastore X73 hx hby hZ e73 (ls := #[.val (.int x0), .val (.int x1), .val (.int x2), .val (.int (3 : Int32)), .val (.ref b66), .val (.ref b70), .unset, .unset, .unset]) (st := []) (j := (1 : Int32)) (((x1.toUInt32 >>> ((8 : Int32) &&& 31).toUInt32).toInt32).toInt8.toInt32) 1 V73' ⟨by decide, by decide⟩ (by decide) (Nat.le_of_ble_eq_true rfl) at_141
    have Z74 : n0 ≤ h74.size := Nat.le_trans Z73 (Keep.of_wr W74).1
    have N74 := Fr.snoc X74 N73 ge70
    have V74' : Arv Z h74 b70 k70 .byte (4 : Int32) [(.int (x1.toInt8.toInt32)), (.int (((x1.toUInt32 >>> ((8 : Int32) &&& 31).toUInt32).toInt32).toInt8.toInt32)), (.int (0 : Int32)), (.int (0 : Int32))] (.int (0 : Int32)) := by have q := V74; rw [own_nb] at q; exact q
    refine own_go st74 ?_
    show own_Got p e below _ T74 (mkF m 142 #[.val (.int x0), .val (.int x1), .val (.int x2), .val (.int (3 : Int32)), .val (.ref b66), .val (.ref b70), .unset, .unset, .unset] [])
    refine g_aload X74 hx hby at_142 rfl rfl (rfl : 142 + 2 = 144) ?_
    refine g_iconst X74 hx hby (2 : Int32) at_144 (by decide) (rfl : 144 + 1 = 145) ?_
    refine g_iloadN X74 hx hby at_145 rfl (rfl : 145 + 1 = 146) ?_
    refine g_bipush X74 hx hby (16 : Int32) at_146 (by decide) (rfl : 146 + 2 = 148) ?_
    refine g_iushr X74 hx hby at_148 (rfl : 148 + 1 = 149) ?_
    refine g_i2b X74 hx hby at_149 (rfl : 149 + 1 = 150) ?_
    obtain ⟨T75, h75, X75, e75, W75, V75, st75⟩ := a_bastore X74 hx hby hZ e74 (ls := #[.val (.int x0), .val (.int x1), .val (.int x2), .val (.int (3 : Int32)), .val (.ref b66), .val (.ref b70), .unset, .unset, .unset]) (st := []) (j := (2 : Int32)) (((x1.toUInt32 >>> ((16 : Int32) &&& 31).toUInt32).toInt32).toInt8.toInt32) 2 V74' ⟨by decide, by decide⟩ (by decide) (Nat.le_of_ble_eq_true rfl) at_150
    have Z75 : n0 ≤ h75.size := Nat.le_trans Z74 (Keep.of_wr W75).1
    have N75 := Fr.snoc X75 N74 ge70
    have V75' : Arv Z h75 b70 k70 .byte (4 : Int32) [(.int (x1.toInt8.toInt32)), (.int (((x1.toUInt32 >>> ((8 : Int32) &&& 31).toUInt32).toInt32).toInt8.toInt32)), (.int (((x1.toUInt32 >>> ((16 : Int32) &&& 31).toUInt32).toInt32).toInt8.toInt32)), (.int (0 : Int32))] (.int (0 : Int32)) := by have q := V75; rw [own_nb] at q; exact q
    refine own_go st75 ?_
    show own_Got p e below _ T75 (mkF m 151 #[.val (.int x0), .val (.int x1), .val (.int x2), .val (.int (3 : Int32)), .val (.ref b66), .val (.ref b70), .unset, .unset, .unset] [])
    refine g_aload X75 hx hby at_151 rfl rfl (rfl : 151 + 2 = 153) ?_
    refine g_iconst X75 hx hby (3 : Int32) at_153 (by decide) (rfl : 153 + 1 = 154) ?_
    refine g_iloadN X75 hx hby at_154 rfl (rfl : 154 + 1 = 155) ?_
    refine g_bipush X75 hx hby (24 : Int32) at_155 (by decide) (rfl : 155 + 2 = 157) ?_
    refine g_iushr X75 hx hby at_157 (rfl : 157 + 1 = 158) ?_
    refine g_i2b X75 hx hby at_158 (rfl : 158 + 1 = 159) ?_
    obtain ⟨T76, h76, X76, e76, W76, V76, st76⟩ := a_bastore X75 hx hby hZ e75 (ls := #[.val (.int x0), .val (.int x1), .val (.int x2), .val (.int (3 : Int32)), .val (.ref b66), .val (.ref b70), .unset, .unset, .unset]) (st := []) (j := (3 : Int32)) (((x1.toUInt32 >>> ((24 : Int32) &&& 31).toUInt32).toInt32).toInt8.toInt32) 3 V75' ⟨by decide, by decide⟩ (by decide) (Nat.le_of_ble_eq_true rfl) at_159
    have Z76 : n0 ≤ h76.size := Nat.le_trans Z75 (Keep.of_wr W76).1
    have N76 := Fr.snoc X76 N75 ge70
    have V76' : Arv Z h76 b70 k70 .byte (4 : Int32) [(.int (x1.toInt8.toInt32)), (.int (((x1.toUInt32 >>> ((8 : Int32) &&& 31).toUInt32).toInt32).toInt8.toInt32)), (.int (((x1.toUInt32 >>> ((16 : Int32) &&& 31).toUInt32).toInt32).toInt8.toInt32)), (.int (((x1.toUInt32 >>> ((24 : Int32) &&& 31).toUInt32).toInt32).toInt8.toInt32))] (.int (0 : Int32)) := by have q := V76; rw [own_nb] at q; exact q
    refine own_go st76 ?_
    show own_Got p e below _ T76 (mkF m 160 #[.val (.int x0), .val (.int x1), .val (.int x2), .val (.int (3 : Int32)), .val (.ref b66), .val (.ref b70), .unset, .unset, .unset] [])
    refine g_aload X76 hx hby at_160 rfl rfl (rfl : 160 + 2 = 162) ?_
    have f78 : Arv Z h76 b66 k66 .byte (3 : Int32) [(.int (x1.toInt8.toInt32)), (.int (((x1.toUInt32 >>> ((8 : Int32) &&& 31).toUInt32).toInt32).toInt8.toInt32)), (.int (((x1.toUInt32 >>> ((16 : Int32) &&& 31).toUInt32).toInt32).toInt8.toInt32))] (.int (0 : Int32)) := (Arv.other (Arv.other (Arv.other (Arv.other (V69'.ext E70) W73 ne72) W74 ne72) W75 ne72) W76 ne72)
    obtain ⟨_, _, ⟨T77, L77, k77, n77⟩, -, X77, ⟨Lc77, hQ77, l77, y77, z77⟩, st77⟩ := Jvm.LawKit.callS X76 hx (y := (⟨"com/example/farshard/farshard/store/Murmur3", "hash32", "([B)I"⟩ : MethodName)) hown (mvT hZ (hw _ (List.mem_of_getElem? (i := 2) rfl))) (mvT hZ (hw _ (List.mem_of_getElem? (i := 3) rfl))) (mvT hZ (hw _ (List.mem_of_getElem? (i := 4) rfl))) (mvT hZ (hw _ (List.mem_of_getElem? (i := 5) rfl))) (by decide) (backOf (W := 0) (rm_hs3 l Z aT hw [] b66 k66 (x1.toInt8.toInt32) (((x1.toUInt32 >>> ((8 : Int32) &&& 31).toUInt32).toInt32).toInt8.toInt32) (((x1.toUInt32 >>> ((16 : Int32) &&& 31).toUInt32).toInt32).toInt8.toInt32) h76 n0 Z76 f78) hZ (hw _ (List.mem_of_getElem? (i := 5) rfl)) (hw _ (List.mem_of_getElem? (i := 4) rfl)) (by decide) (by decide)) (g := (mkF m 162 #[.val (.int x0), .val (.int x1), .val (.int x2), .val (.int (3 : Int32)), .val (.ref b66), .val (.ref b70), .unset, .unset, .unset] [(.ref b66)])) rfl (by rw [hml]; rfl) (argsL := [(.ref b66)]) (rest := []) (lenOf pd2 rfl) rfl (by show 2 * 0 + _ ≤ _; exact Nat.le_of_eq rfl) (hb hby at_162) (fun _ _ => ⟨rfl, e76, (by decide : 2 + 0 ≤ _), (by decide : 7 + 0 ≤ _)⟩)
    dsimp only [Pt.U, Pt.locs, Pt.cells, Pt.slots] at X77 l77 y77 z77 st77 hQ77
    subst l77 y77 z77
    obtain ⟨rfl, N77q, eq77⟩ := hQ77
    have N77 := Fr.app N76 N77q
    refine own_go st77 ?_
    show own_Got p e below _ T77 (mkF m 165 #[.val (.int x0), .val (.int x1), .val (.int x2), .val (.int (3 : Int32)), .val (.ref b66), .val (.ref b70), .unset, .unset, .unset] [(.int (F_hs3 (x1.toInt8.toInt32) (((x1.toUInt32 >>> ((8 : Int32) &&& 31).toUInt32).toInt32).toInt8.toInt32) (((x1.toUInt32 >>> ((16 : Int32) &&& 31).toUInt32).toInt32).toInt8.toInt32)))])
    refine g_istore X77 hx hby #[.val (.int x0), .val (.int x1), .val (.int x2), .val (.int (3 : Int32)), .val (.ref b66), .val (.ref b70), .val (.int (F_hs3 (x1.toInt8.toInt32) (((x1.toUInt32 >>> ((8 : Int32) &&& 31).toUInt32).toInt32).toInt8.toInt32) (((x1.toUInt32 >>> ((16 : Int32) &&& 31).toUInt32).toInt32).toInt8.toInt32))), .unset, .unset] at_165 rfl (rfl : 165 + 2 = 167) ?_
    refine g_iload X77 hx hby at_167 rfl (rfl : 167 + 2 = 169) ?_
    obtain ⟨_, _, ⟨T79, L79, k79, n79⟩, -, X79, ⟨Lc79, hQ79, l79, y79, z79⟩, st79⟩ := Jvm.LawKit.callS X77 hx (y := (⟨"com/example/farshard/farshard/store/Murmur3Hash32PinLaw", "invFmix", "(I)I"⟩ : MethodName)) hown (mvT hZ (hw _ (List.mem_of_getElem? (i := 8) rfl))) (mvT hZ (hw _ (List.mem_of_getElem? (i := 9) rfl))) (mvT hZ (hw _ (List.mem_of_getElem? (i := 10) rfl))) (mvT hZ (hw _ (List.mem_of_getElem? (i := 11) rfl))) (by decide) (backOf (W := 0) (rm_ifx l Z aT hw [] (F_hs3 (x1.toInt8.toInt32) (((x1.toUInt32 >>> ((8 : Int32) &&& 31).toUInt32).toInt32).toInt8.toInt32) (((x1.toUInt32 >>> ((16 : Int32) &&& 31).toUInt32).toInt32).toInt8.toInt32)) h76 n0 Z76) hZ (hw _ (List.mem_of_getElem? (i := 11) rfl)) (hw _ (List.mem_of_getElem? (i := 10) rfl)) (by decide) (by decide)) (g := (mkF m 169 #[.val (.int x0), .val (.int x1), .val (.int x2), .val (.int (3 : Int32)), .val (.ref b66), .val (.ref b70), .val (.int (F_hs3 (x1.toInt8.toInt32) (((x1.toUInt32 >>> ((8 : Int32) &&& 31).toUInt32).toInt32).toInt8.toInt32) (((x1.toUInt32 >>> ((16 : Int32) &&& 31).toUInt32).toInt32).toInt8.toInt32))), .unset, .unset] [(.int (F_hs3 (x1.toInt8.toInt32) (((x1.toUInt32 >>> ((8 : Int32) &&& 31).toUInt32).toInt32).toInt8.toInt32) (((x1.toUInt32 >>> ((16 : Int32) &&& 31).toUInt32).toInt32).toInt8.toInt32)))])) rfl (by rw [hml]; rfl) (argsL := [(.int (F_hs3 (x1.toInt8.toInt32) (((x1.toUInt32 >>> ((8 : Int32) &&& 31).toUInt32).toInt32).toInt8.toInt32) (((x1.toUInt32 >>> ((16 : Int32) &&& 31).toUInt32).toInt32).toInt8.toInt32)))]) (rest := []) (lenOf pd1 rfl) rfl (by show 2 * 0 + _ ≤ _; exact Nat.le_of_eq rfl) (hb hby at_169) (fun _ _ => ⟨rfl, eq77, (by decide : 2 + 0 ≤ _), (by decide : 7 + 0 ≤ _)⟩)
    dsimp only [Pt.U, Pt.locs, Pt.cells, Pt.slots] at X79 l79 y79 z79 st79 hQ79
    subst l79 y79 z79
    obtain ⟨rfl, N79q, eq79⟩ := hQ79
    have N79 := Fr.app N77 N79q
    refine own_go st79 ?_
    show own_Got p e below _ T79 (mkF m 172 #[.val (.int x0), .val (.int x1), .val (.int x2), .val (.int (3 : Int32)), .val (.ref b66), .val (.ref b70), .val (.int (F_hs3 (x1.toInt8.toInt32) (((x1.toUInt32 >>> ((8 : Int32) &&& 31).toUInt32).toInt32).toInt8.toInt32) (((x1.toUInt32 >>> ((16 : Int32) &&& 31).toUInt32).toInt32).toInt8.toInt32))), .unset, .unset] [(.int (F_ifx (F_hs3 (x1.toInt8.toInt32) (((x1.toUInt32 >>> ((8 : Int32) &&& 31).toUInt32).toInt32).toInt8.toInt32) (((x1.toUInt32 >>> ((16 : Int32) &&& 31).toUInt32).toInt32).toInt8.toInt32))))])
    refine g_iloadN X79 hx hby at_172 rfl (rfl : 172 + 1 = 173) ?_
    refine g_ixor X79 hx hby at_173 (rfl : 173 + 1 = 174) ?_
    refine g_istore X79 hx hby #[.val (.int x0), .val (.int x1), .val (.int x2), .val (.int (3 : Int32)), .val (.ref b66), .val (.ref b70), .val (.int (F_hs3 (x1.toInt8.toInt32) (((x1.toUInt32 >>> ((8 : Int32) &&& 31).toUInt32).toInt32).toInt8.toInt32) (((x1.toUInt32 >>> ((16 : Int32) &&& 31).toUInt32).toInt32).toInt8.toInt32))), .val (.int ((F_ifx (F_hs3 (x1.toInt8.toInt32) (((x1.toUInt32 >>> ((8 : Int32) &&& 31).toUInt32).toInt32).toInt8.toInt32) (((x1.toUInt32 >>> ((16 : Int32) &&& 31).toUInt32).toInt32).toInt8.toInt32))) ^^^ (3 : Int32))), .unset] at_174 rfl (rfl : 174 + 2 = 176) ?_
    refine g_iloadN X79 hx hby at_176 rfl (rfl : 176 + 1 = 177) ?_
    refine g_ifT X79 hx hby at_177 ((if0 _ _).trans (feq (by decide : ¬ ((3 : Int32) = (0 : Int32)))).2) (by decide) (pc' := 191) (by decide) ?_
    refine g_iloadN X79 hx hby at_191 rfl (rfl : 191 + 1 = 192) ?_
    refine g_iconst X79 hx hby (4 : Int32) at_192 (by decide) (rfl : 192 + 1 = 193) ?_
    refine g_icF X79 hx hby at_193 (tlt (by decide : (3 : Int32) < (4 : Int32))).2.1 (rfl : 193 + 3 = 196) ?_
    refine g_iload X79 hx hby at_196 rfl (rfl : 196 + 2 = 198) ?_
    obtain ⟨_, _, ⟨T80, L80, k80, n80⟩, -, X80, ⟨Lc80, hQ80, l80, y80, z80⟩, st80⟩ := Jvm.LawKit.callS X79 hx (y := (⟨"com/example/farshard/farshard/store/Murmur3Hash32PinLaw", "invMix", "(I)I"⟩ : MethodName)) hown (mvT hZ (hw _ (List.mem_of_getElem? (i := 26) rfl))) (mvT hZ (hw _ (List.mem_of_getElem? (i := 27) rfl))) (mvT hZ (hw _ (List.mem_of_getElem? (i := 10) rfl))) (mvT hZ (hw _ (List.mem_of_getElem? (i := 28) rfl))) (by decide) (backOf (W := 0) (rm_imx l Z aT hw [] ((F_ifx (F_hs3 (x1.toInt8.toInt32) (((x1.toUInt32 >>> ((8 : Int32) &&& 31).toUInt32).toInt32).toInt8.toInt32) (((x1.toUInt32 >>> ((16 : Int32) &&& 31).toUInt32).toInt32).toInt8.toInt32))) ^^^ (3 : Int32)) h76 n0 Z76) hZ (hw _ (List.mem_of_getElem? (i := 28) rfl)) (hw _ (List.mem_of_getElem? (i := 10) rfl)) (by decide) (by decide)) (g := (mkF m 198 #[.val (.int x0), .val (.int x1), .val (.int x2), .val (.int (3 : Int32)), .val (.ref b66), .val (.ref b70), .val (.int (F_hs3 (x1.toInt8.toInt32) (((x1.toUInt32 >>> ((8 : Int32) &&& 31).toUInt32).toInt32).toInt8.toInt32) (((x1.toUInt32 >>> ((16 : Int32) &&& 31).toUInt32).toInt32).toInt8.toInt32))), .val (.int ((F_ifx (F_hs3 (x1.toInt8.toInt32) (((x1.toUInt32 >>> ((8 : Int32) &&& 31).toUInt32).toInt32).toInt8.toInt32) (((x1.toUInt32 >>> ((16 : Int32) &&& 31).toUInt32).toInt32).toInt8.toInt32))) ^^^ (3 : Int32))), .unset] [(.int ((F_ifx (F_hs3 (x1.toInt8.toInt32) (((x1.toUInt32 >>> ((8 : Int32) &&& 31).toUInt32).toInt32).toInt8.toInt32) (((x1.toUInt32 >>> ((16 : Int32) &&& 31).toUInt32).toInt32).toInt8.toInt32))) ^^^ (3 : Int32)))])) rfl (by rw [hml]; rfl) (argsL := [(.int ((F_ifx (F_hs3 (x1.toInt8.toInt32) (((x1.toUInt32 >>> ((8 : Int32) &&& 31).toUInt32).toInt32).toInt8.toInt32) (((x1.toUInt32 >>> ((16 : Int32) &&& 31).toUInt32).toInt32).toInt8.toInt32))) ^^^ (3 : Int32)))]) (rest := []) (lenOf pd1 rfl) rfl (by show 2 * 0 + _ ≤ _; exact Nat.le_of_eq rfl) (hb hby at_198) (fun _ _ => ⟨rfl, eq79, (by decide : 2 + 0 ≤ _), (by decide : 7 + 0 ≤ _)⟩)
    dsimp only [Pt.U, Pt.locs, Pt.cells, Pt.slots] at X80 l80 y80 z80 st80 hQ80
    subst l80 y80 z80
    obtain ⟨rfl, N80q, eq80⟩ := hQ80
    have N80 := Fr.app N79 N80q
    refine own_go st80 ?_
    show own_Got p e below _ T80 (mkF m 201 #[.val (.int x0), .val (.int x1), .val (.int x2), .val (.int (3 : Int32)), .val (.ref b66), .val (.ref b70), .val (.int (F_hs3 (x1.toInt8.toInt32) (((x1.toUInt32 >>> ((8 : Int32) &&& 31).toUInt32).toInt32).toInt8.toInt32) (((x1.toUInt32 >>> ((16 : Int32) &&& 31).toUInt32).toInt32).toInt8.toInt32))), .val (.int ((F_ifx (F_hs3 (x1.toInt8.toInt32) (((x1.toUInt32 >>> ((8 : Int32) &&& 31).toUInt32).toInt32).toInt8.toInt32) (((x1.toUInt32 >>> ((16 : Int32) &&& 31).toUInt32).toInt32).toInt8.toInt32))) ^^^ (3 : Int32))), .unset] [(.int (F_imx ((F_ifx (F_hs3 (x1.toInt8.toInt32) (((x1.toUInt32 >>> ((8 : Int32) &&& 31).toUInt32).toInt32).toInt8.toInt32) (((x1.toUInt32 >>> ((16 : Int32) &&& 31).toUInt32).toInt32).toInt8.toInt32))) ^^^ (3 : Int32))))])
    refine g_iloadN X80 hx hby at_201 rfl (rfl : 201 + 1 = 202) ?_
    refine g_iconst X80 hx hby (1 : Int32) at_202 (by decide) (rfl : 202 + 1 = 203) ?_
    refine g_bipush X80 hx hby (8 : Int32) at_203 (by decide) (rfl : 203 + 2 = 205) ?_
    refine g_iloadN X80 hx hby at_205 rfl (rfl : 205 + 1 = 206) ?_
    refine g_imul X80 hx hby at_206 (rfl : 206 + 1 = 207) ?_
    rw [(by decide : ((8 : Int32) * (3 : Int32)) = (24 : Int32))]
    refine g_ishl X80 hx hby at_207 (rfl : 207 + 1 = 208) ?_
    rw [(by decide : ((1 : Int32) <<< ((24 : Int32) &&& 31)) = (16777216 : Int32))]
    refine g_iconst X80 hx hby (1 : Int32) at_208 (by decide) (rfl : 208 + 1 = 209) ?_
    refine g_isub X80 hx hby at_209 (rfl : 209 + 1 = 210) ?_
    rw [(by decide : ((16777216 : Int32) - (1 : Int32)) = (16777215 : Int32))]
    refine g_iand X80 hx hby at_210 (rfl : 210 + 1 = 211) ?_
    have c81 : (F_imx ((F_ifx (F_hs3 (x1.toInt8.toInt32) (((x1.toUInt32 >>> ((8 : Int32) &&& 31).toUInt32).toInt32).toInt8.toInt32) (((x1.toUInt32 >>> ((16 : Int32) &&& 31).toUInt32).toInt32).toInt8.toInt32))) ^^^ (3 : Int32))) = (x1 &&& (16777215 : Int32)) := own_h3 x1
    refine g_icF X80 hx hby at_211 (teq c81).2 (rfl : 211 + 3 = 214) ?_
    refine g_iconst X80 hx hby (1 : Int32) at_214 (by decide) (rfl : 214 + 1 = 215) ?_
    refine g_goto X80 hx hby at_215 (by decide) (pc' := 219) (by decide) ?_
    refine own_retN X80 hx hby hlk (t := .boolean) hrt (by simp) at_219 (by decide) (by decide) ?_
    show Q_law Z x0 x1 x2 h0 n0 _ T80.heap _
    exact ⟨rfl, N80⟩
  · rw [hk25]
    refine g_iloadN X0 hx hby at_8 rfl (rfl : 8 + 1 = 9) ?_
    obtain ⟨T82, h82, k82, X82, e82, E82, A82, B82, st82⟩ := newPE X0 hx hZ (hw _ (List.mem_of_getElem? (i := 1) rfl)) e0 (g := (mkF m 9 #[.val (.int x0), .val (.int x1), .val (.int x2), .val (.int (4 : Int32)), .unset, .unset, .unset, .unset, .unset] [(.int (4 : Int32))])) rfl (hb hby at_9) rfl (by decide) (cap := 4) (by decide) (by decide) (by decide) (by decide) (ad := "[B") (by decide +kernel)
    obtain ⟨b82, g82⟩ : ∃ z, z = h0.size := ⟨_, rfl⟩
    rw [← g82] at A82 B82 st82
    have Z82 : n0 ≤ h82.size := Nat.le_trans Z0 E82.1
    have ge82 : n0 ≤ b82 := Nat.le_trans Z0 (Nat.le_of_eq g82.symm)
    have V82 : Arv Z h82 b82 k82 .byte (4 : Int32) [(.int (0 : Int32)), (.int (0 : Int32)), (.int (0 : Int32)), (.int (0 : Int32))] (.int (0 : Int32)) := (Arv.new A82 (by decide)).pad (pad_rep [] _ 4)
    refine own_go st82 ?_
    show own_Got p e below _ T82 (mkF m 11 #[.val (.int x0), .val (.int x1), .val (.int x2), .val (.int (4 : Int32)), .unset, .unset, .unset, .unset, .unset] [(.ref b82)])
    refine g_astore X82 hx hby #[.val (.int x0), .val (.int x1), .val (.int x2), .val (.int (4 : Int32)), .val (.ref b82), .unset, .unset, .unset, .unset] at_11 rfl rfl (rfl : 11 + 2 = 13) ?_
    refine g_iloadN X82 hx hby at_13 rfl (rfl : 13 + 1 = 14) ?_
    refine g_ifF X82 hx hby at_14 ((if0 _ _).trans (tlt (by decide : (0 : Int32) < (4 : Int32))).2.2.2) (rfl : 14 + 3 = 17) ?_
    refine g_aload X82 hx hby at_17 rfl rfl (rfl : 17 + 2 = 19) ?_
    refine g_iconst X82 hx hby (0 : Int32) at_19 (by decide) (rfl : 19 + 1 = 20) ?_
    refine g_iloadN X82 hx hby at_20 rfl (rfl : 20 + 1 = 21) ?_
    refine g_i2b X82 hx hby at_21 (rfl : 21 + 1 = 22) ?_
    obtain ⟨T83, h83, X83, e83, W83, V83, st83⟩ := a_bastore X82 hx hby hZ e82 (ls := #[.val (.int x0), .val (.int x1), .val (.int x2), .val (.int (4 : Int32)), .val (.ref b82), .unset, .unset, .unset, .unset]) (st := []) (j := (0 : Int32)) (x1.toInt8.toInt32) 0 V82 ⟨by decide, by decide⟩ (by decide) (Nat.le_of_ble_eq_true rfl) at_22
    have Z83 : n0 ≤ h83.size := Nat.le_trans Z82 (Keep.of_wr W83).1
    have N83 := Fr.snoc X83 N0 ge82
    have V83' : Arv Z h83 b82 k82 .byte (4 : Int32) [(.int (x1.toInt8.toInt32)), (.int (0 : Int32)), (.int (0 : Int32)), (.int (0 : Int32))] (.int (0 : Int32)) := by have q := V83; rw [own_nb] at q; exact q
    refine own_go st83 ?_
    show own_Got p e below _ T83 (mkF m 23 #[.val (.int x0), .val (.int x1), .val (.int x2), .val (.int (4 : Int32)), .val (.ref b82), .unset, .unset, .unset, .unset] [])
    refine g_iloadN X83 hx hby at_23 rfl (rfl : 23 + 1 = 24) ?_
    refine g_iconst X83 hx hby (1 : Int32) at_24 (by decide) (rfl : 24 + 1 = 25) ?_
    refine g_icF X83 hx hby at_25 (tlt (by decide : (1 : Int32) < (4 : Int32))).2.2.2 (rfl : 25 + 3 = 28) ?_
    refine g_aload X83 hx hby at_28 rfl rfl (rfl : 28 + 2 = 30) ?_
    refine g_iconst X83 hx hby (1 : Int32) at_30 (by decide) (rfl : 30 + 1 = 31) ?_
    refine g_iloadN X83 hx hby at_31 rfl (rfl : 31 + 1 = 32) ?_
    refine g_bipush X83 hx hby (8 : Int32) at_32 (by decide) (rfl : 32 + 2 = 34) ?_
    refine g_iushr X83 hx hby at_34 (rfl : 34 + 1 = 35) ?_
    refine g_i2b X83 hx hby at_35 (rfl : 35 + 1 = 36) ?_
    obtain ⟨T84, h84, X84, e84, W84, V84, st84⟩ := a_bastore X83 hx hby hZ e83 (ls := #[.val (.int x0), .val (.int x1), .val (.int x2), .val (.int (4 : Int32)), .val (.ref b82), .unset, .unset, .unset, .unset]) (st := []) (j := (1 : Int32)) (((x1.toUInt32 >>> ((8 : Int32) &&& 31).toUInt32).toInt32).toInt8.toInt32) 1 V83' ⟨by decide, by decide⟩ (by decide) (Nat.le_of_ble_eq_true rfl) at_36
    have Z84 : n0 ≤ h84.size := Nat.le_trans Z83 (Keep.of_wr W84).1
    have N84 := Fr.snoc X84 N83 ge82
    have V84' : Arv Z h84 b82 k82 .byte (4 : Int32) [(.int (x1.toInt8.toInt32)), (.int (((x1.toUInt32 >>> ((8 : Int32) &&& 31).toUInt32).toInt32).toInt8.toInt32)), (.int (0 : Int32)), (.int (0 : Int32))] (.int (0 : Int32)) := by have q := V84; rw [own_nb] at q; exact q
    refine own_go st84 ?_
    show own_Got p e below _ T84 (mkF m 37 #[.val (.int x0), .val (.int x1), .val (.int x2), .val (.int (4 : Int32)), .val (.ref b82), .unset, .unset, .unset, .unset] [])
    refine g_iloadN X84 hx hby at_37 rfl (rfl : 37 + 1 = 38) ?_
    refine g_iconst X84 hx hby (2 : Int32) at_38 (by decide) (rfl : 38 + 1 = 39) ?_
    refine g_icF X84 hx hby at_39 (tlt (by decide : (2 : Int32) < (4 : Int32))).2.2.2 (rfl : 39 + 3 = 42) ?_
    refine g_aload X84 hx hby at_42 rfl rfl (rfl : 42 + 2 = 44) ?_
    refine g_iconst X84 hx hby (2 : Int32) at_44 (by decide) (rfl : 44 + 1 = 45) ?_
    refine g_iloadN X84 hx hby at_45 rfl (rfl : 45 + 1 = 46) ?_
    refine g_bipush X84 hx hby (16 : Int32) at_46 (by decide) (rfl : 46 + 2 = 48) ?_
    refine g_iushr X84 hx hby at_48 (rfl : 48 + 1 = 49) ?_
    refine g_i2b X84 hx hby at_49 (rfl : 49 + 1 = 50) ?_
    obtain ⟨T85, h85, X85, e85, W85, V85, st85⟩ := a_bastore X84 hx hby hZ e84 (ls := #[.val (.int x0), .val (.int x1), .val (.int x2), .val (.int (4 : Int32)), .val (.ref b82), .unset, .unset, .unset, .unset]) (st := []) (j := (2 : Int32)) (((x1.toUInt32 >>> ((16 : Int32) &&& 31).toUInt32).toInt32).toInt8.toInt32) 2 V84' ⟨by decide, by decide⟩ (by decide) (Nat.le_of_ble_eq_true rfl) at_50
    have Z85 : n0 ≤ h85.size := Nat.le_trans Z84 (Keep.of_wr W85).1
    have N85 := Fr.snoc X85 N84 ge82
    have V85' : Arv Z h85 b82 k82 .byte (4 : Int32) [(.int (x1.toInt8.toInt32)), (.int (((x1.toUInt32 >>> ((8 : Int32) &&& 31).toUInt32).toInt32).toInt8.toInt32)), (.int (((x1.toUInt32 >>> ((16 : Int32) &&& 31).toUInt32).toInt32).toInt8.toInt32)), (.int (0 : Int32))] (.int (0 : Int32)) := by have q := V85; rw [own_nb] at q; exact q
    refine own_go st85 ?_
    show own_Got p e below _ T85 (mkF m 51 #[.val (.int x0), .val (.int x1), .val (.int x2), .val (.int (4 : Int32)), .val (.ref b82), .unset, .unset, .unset, .unset] [])
    refine g_iloadN X85 hx hby at_51 rfl (rfl : 51 + 1 = 52) ?_
    refine g_iconst X85 hx hby (3 : Int32) at_52 (by decide) (rfl : 52 + 1 = 53) ?_
    refine g_icF X85 hx hby at_53 (tlt (by decide : (3 : Int32) < (4 : Int32))).2.2.2 (rfl : 53 + 3 = 56) ?_
    refine g_aload X85 hx hby at_56 rfl rfl (rfl : 56 + 2 = 58) ?_
    refine g_iconst X85 hx hby (3 : Int32) at_58 (by decide) (rfl : 58 + 1 = 59) ?_
    refine g_iloadN X85 hx hby at_59 rfl (rfl : 59 + 1 = 60) ?_
    refine g_bipush X85 hx hby (24 : Int32) at_60 (by decide) (rfl : 60 + 2 = 62) ?_
    refine g_iushr X85 hx hby at_62 (rfl : 62 + 1 = 63) ?_
    refine g_i2b X85 hx hby at_63 (rfl : 63 + 1 = 64) ?_
    obtain ⟨T86, h86, X86, e86, W86, V86, st86⟩ := a_bastore X85 hx hby hZ e85 (ls := #[.val (.int x0), .val (.int x1), .val (.int x2), .val (.int (4 : Int32)), .val (.ref b82), .unset, .unset, .unset, .unset]) (st := []) (j := (3 : Int32)) (((x1.toUInt32 >>> ((24 : Int32) &&& 31).toUInt32).toInt32).toInt8.toInt32) 3 V85' ⟨by decide, by decide⟩ (by decide) (Nat.le_of_ble_eq_true rfl) at_64
    have Z86 : n0 ≤ h86.size := Nat.le_trans Z85 (Keep.of_wr W86).1
    have N86 := Fr.snoc X86 N85 ge82
    have V86' : Arv Z h86 b82 k82 .byte (4 : Int32) [(.int (x1.toInt8.toInt32)), (.int (((x1.toUInt32 >>> ((8 : Int32) &&& 31).toUInt32).toInt32).toInt8.toInt32)), (.int (((x1.toUInt32 >>> ((16 : Int32) &&& 31).toUInt32).toInt32).toInt8.toInt32)), (.int (((x1.toUInt32 >>> ((24 : Int32) &&& 31).toUInt32).toInt32).toInt8.toInt32))] (.int (0 : Int32)) := by have q := V86; rw [own_nb] at q; exact q
    refine own_go st86 ?_
    show own_Got p e below _ T86 (mkF m 65 #[.val (.int x0), .val (.int x1), .val (.int x2), .val (.int (4 : Int32)), .val (.ref b82), .unset, .unset, .unset, .unset] [])
    refine g_iloadN X86 hx hby at_65 rfl (rfl : 65 + 1 = 66) ?_
    refine g_iconst X86 hx hby (4 : Int32) at_66 (by decide) (rfl : 66 + 1 = 67) ?_
    refine g_icT X86 hx hby at_67 (flt (by decide : ¬ ((4 : Int32) < (4 : Int32)))).2.2.2 (by decide) (pc' := 76) (by decide) ?_
    refine g_iloadN X86 hx hby at_76 rfl (rfl : 76 + 1 = 77) ?_
    refine g_iconst X86 hx hby (5 : Int32) at_77 (by decide) (rfl : 77 + 1 = 78) ?_
    refine g_icT X86 hx hby at_78 (flt (by decide : ¬ ((5 : Int32) < (4 : Int32)))).2.2.2 (by decide) (pc' := 90) (by decide) ?_
    refine g_iloadN X86 hx hby at_90 rfl (rfl : 90 + 1 = 91) ?_
    refine g_bipush X86 hx hby (6 : Int32) at_91 (by decide) (rfl : 91 + 2 = 93) ?_
    refine g_icT X86 hx hby at_93 (flt (by decide : ¬ ((6 : Int32) < (4 : Int32)))).2.2.2 (by decide) (pc' := 106) (by decide) ?_
    refine g_iloadN X86 hx hby at_106 rfl (rfl : 106 + 1 = 107) ?_
    refine g_bipush X86 hx hby (7 : Int32) at_107 (by decide) (rfl : 107 + 2 = 109) ?_
    refine g_icT X86 hx hby at_109 (flt (by decide : ¬ ((7 : Int32) < (4 : Int32)))).2.2.2 (by decide) (pc' := 122) (by decide) ?_
    refine g_iconst X86 hx hby (4 : Int32) at_122 (by decide) (rfl : 122 + 1 = 123) ?_
    have f88 : Exa Z h86 b82 "[B" := (Exa.wr W86 (Exa.wr W85 (Exa.wr W84 (Exa.wr W83 B82))))
    obtain ⟨T87, h87, k87, X87, e87, E87, A87, B87, st87⟩ := newPE X86 hx hZ (hw _ (List.mem_of_getElem? (i := 1) rfl)) e86 (g := (mkF m 123 #[.val (.int x0), .val (.int x1), .val (.int x2), .val (.int (4 : Int32)), .val (.ref b82), .unset, .unset, .unset, .unset] [(.int (4 : Int32))])) rfl (hb hby at_123) rfl (by decide) (cap := 4) (by decide) (by decide) (by decide) (by decide) (ad := "[B") (by decide +kernel)
    obtain ⟨b87, g87⟩ : ∃ z, z = h86.size := ⟨_, rfl⟩
    rw [← g87] at A87 B87 st87
    have ne89 : b82 ≠ b87 := Nat.ne_of_lt (Nat.lt_of_lt_of_le (f88).lt (Nat.le_of_eq g87.symm))
    have Z87 : n0 ≤ h87.size := Nat.le_trans Z86 E87.1
    have ge87 : n0 ≤ b87 := Nat.le_trans Z86 (Nat.le_of_eq g87.symm)
    have V87 : Arv Z h87 b87 k87 .byte (4 : Int32) [(.int (0 : Int32)), (.int (0 : Int32)), (.int (0 : Int32)), (.int (0 : Int32))] (.int (0 : Int32)) := (Arv.new A87 (by decide)).pad (pad_rep [] _ 4)
    refine own_go st87 ?_
    show own_Got p e below _ T87 (mkF m 125 #[.val (.int x0), .val (.int x1), .val (.int x2), .val (.int (4 : Int32)), .val (.ref b82), .unset, .unset, .unset, .unset] [(.ref b87)])
    refine g_astore X87 hx hby #[.val (.int x0), .val (.int x1), .val (.int x2), .val (.int (4 : Int32)), .val (.ref b82), .val (.ref b87), .unset, .unset, .unset] at_125 rfl rfl (rfl : 125 + 2 = 127) ?_
    refine g_aload X87 hx hby at_127 rfl rfl (rfl : 127 + 2 = 129) ?_
    refine g_iconst X87 hx hby (0 : Int32) at_129 (by decide) (rfl : 129 + 1 = 130) ?_
    refine g_iloadN X87 hx hby at_130 rfl (rfl : 130 + 1 = 131) ?_
    refine g_i2b X87 hx hby at_131 (rfl : 131 + 1 = 132) ?_
    obtain ⟨T90, h90, X90, e90, W90, V90, st90⟩ := a_bastore X87 hx hby hZ e87 (ls := #[.val (.int x0), .val (.int x1), .val (.int x2), .val (.int (4 : Int32)), .val (.ref b82), .val (.ref b87), .unset, .unset, .unset]) (st := []) (j := (0 : Int32)) (x1.toInt8.toInt32) 0 V87 ⟨by decide, by decide⟩ (by decide) (Nat.le_of_ble_eq_true rfl) at_132
    have Z90 : n0 ≤ h90.size := Nat.le_trans Z87 (Keep.of_wr W90).1
    have N90 := Fr.snoc X90 N86 ge87
    have V90' : Arv Z h90 b87 k87 .byte (4 : Int32) [(.int (x1.toInt8.toInt32)), (.int (0 : Int32)), (.int (0 : Int32)), (.int (0 : Int32))] (.int (0 : Int32)) := by have q := V90; rw [own_nb] at q; exact q
    refine own_go st90 ?_
    show own_Got p e below _ T90 (mkF m 133 #[.val (.int x0), .val (.int x1), .val (.int x2), .val (.int (4 : Int32)), .val (.ref b82), .val (.ref b87), .unset, .unset, .unset] [])
    refine g_aload X90 hx hby at_133 rfl rfl (rfl : 133 + 2 = 135) ?_
    refine g_iconst X90 hx hby (1 : Int32) at_135 (by decide) (rfl : 135 + 1 = 136) ?_
    refine g_iloadN X90 hx hby at_136 rfl (rfl : 136 + 1 = 137) ?_
    refine g_bipush X90 hx hby (8 : Int32) at_137 (by decide) (rfl : 137 + 2 = 139) ?_
    refine g_iushr X90 hx hby at_139 (rfl : 139 + 1 = 140) ?_
    refine g_i2b X90 hx hby at_140 (rfl : 140 + 1 = 141) ?_
    obtain ⟨T91, h91, X91, e91, W91, V91, st91⟩ := a_bastore X90 hx hby hZ e90 (ls := #[.val (.int x0), .val (.int x1), .val (.int x2), .val (.int (4 : Int32)), .val (.ref b82), .val (.ref b87), .unset, .unset, .unset]) (st := []) (j := (1 : Int32)) (((x1.toUInt32 >>> ((8 : Int32) &&& 31).toUInt32).toInt32).toInt8.toInt32) 1 V90' ⟨by decide, by decide⟩ (by decide) (Nat.le_of_ble_eq_true rfl) at_141
    have Z91 : n0 ≤ h91.size := Nat.le_trans Z90 (Keep.of_wr W91).1
    have N91 := Fr.snoc X91 N90 ge87
    have V91' : Arv Z h91 b87 k87 .byte (4 : Int32) [(.int (x1.toInt8.toInt32)), (.int (((x1.toUInt32 >>> ((8 : Int32) &&& 31).toUInt32).toInt32).toInt8.toInt32)), (.int (0 : Int32)), (.int (0 : Int32))] (.int (0 : Int32)) := by have q := V91; rw [own_nb] at q; exact q
    refine own_go st91 ?_
    show own_Got p e below _ T91 (mkF m 142 #[.val (.int x0), .val (.int x1), .val (.int x2), .val (.int (4 : Int32)), .val (.ref b82), .val (.ref b87), .unset, .unset, .unset] [])
    refine g_aload X91 hx hby at_142 rfl rfl (rfl : 142 + 2 = 144) ?_
    refine g_iconst X91 hx hby (2 : Int32) at_144 (by decide) (rfl : 144 + 1 = 145) ?_
    refine g_iloadN X91 hx hby at_145 rfl (rfl : 145 + 1 = 146) ?_
    refine g_bipush X91 hx hby (16 : Int32) at_146 (by decide) (rfl : 146 + 2 = 148) ?_
    refine g_iushr X91 hx hby at_148 (rfl : 148 + 1 = 149) ?_
    refine g_i2b X91 hx hby at_149 (rfl : 149 + 1 = 150) ?_
    obtain ⟨T92, h92, X92, e92, W92, V92, st92⟩ := a_bastore X91 hx hby hZ e91 (ls := #[.val (.int x0), .val (.int x1), .val (.int x2), .val (.int (4 : Int32)), .val (.ref b82), .val (.ref b87), .unset, .unset, .unset]) (st := []) (j := (2 : Int32)) (((x1.toUInt32 >>> ((16 : Int32) &&& 31).toUInt32).toInt32).toInt8.toInt32) 2 V91' ⟨by decide, by decide⟩ (by decide) (Nat.le_of_ble_eq_true rfl) at_150
    have Z92 : n0 ≤ h92.size := Nat.le_trans Z91 (Keep.of_wr W92).1
    have N92 := Fr.snoc X92 N91 ge87
    have V92' : Arv Z h92 b87 k87 .byte (4 : Int32) [(.int (x1.toInt8.toInt32)), (.int (((x1.toUInt32 >>> ((8 : Int32) &&& 31).toUInt32).toInt32).toInt8.toInt32)), (.int (((x1.toUInt32 >>> ((16 : Int32) &&& 31).toUInt32).toInt32).toInt8.toInt32)), (.int (0 : Int32))] (.int (0 : Int32)) := by have q := V92; rw [own_nb] at q; exact q
    refine own_go st92 ?_
    show own_Got p e below _ T92 (mkF m 151 #[.val (.int x0), .val (.int x1), .val (.int x2), .val (.int (4 : Int32)), .val (.ref b82), .val (.ref b87), .unset, .unset, .unset] [])
    refine g_aload X92 hx hby at_151 rfl rfl (rfl : 151 + 2 = 153) ?_
    refine g_iconst X92 hx hby (3 : Int32) at_153 (by decide) (rfl : 153 + 1 = 154) ?_
    refine g_iloadN X92 hx hby at_154 rfl (rfl : 154 + 1 = 155) ?_
    refine g_bipush X92 hx hby (24 : Int32) at_155 (by decide) (rfl : 155 + 2 = 157) ?_
    refine g_iushr X92 hx hby at_157 (rfl : 157 + 1 = 158) ?_
    refine g_i2b X92 hx hby at_158 (rfl : 158 + 1 = 159) ?_
    obtain ⟨T93, h93, X93, e93, W93, V93, st93⟩ := a_bastore X92 hx hby hZ e92 (ls := #[.val (.int x0), .val (.int x1), .val (.int x2), .val (.int (4 : Int32)), .val (.ref b82), .val (.ref b87), .unset, .unset, .unset]) (st := []) (j := (3 : Int32)) (((x1.toUInt32 >>> ((24 : Int32) &&& 31).toUInt32).toInt32).toInt8.toInt32) 3 V92' ⟨by decide, by decide⟩ (by decide) (Nat.le_of_ble_eq_true rfl) at_159
    have Z93 : n0 ≤ h93.size := Nat.le_trans Z92 (Keep.of_wr W93).1
    have N93 := Fr.snoc X93 N92 ge87
    have V93' : Arv Z h93 b87 k87 .byte (4 : Int32) [(.int (x1.toInt8.toInt32)), (.int (((x1.toUInt32 >>> ((8 : Int32) &&& 31).toUInt32).toInt32).toInt8.toInt32)), (.int (((x1.toUInt32 >>> ((16 : Int32) &&& 31).toUInt32).toInt32).toInt8.toInt32)), (.int (((x1.toUInt32 >>> ((24 : Int32) &&& 31).toUInt32).toInt32).toInt8.toInt32))] (.int (0 : Int32)) := by have q := V93; rw [own_nb] at q; exact q
    refine own_go st93 ?_
    show own_Got p e below _ T93 (mkF m 160 #[.val (.int x0), .val (.int x1), .val (.int x2), .val (.int (4 : Int32)), .val (.ref b82), .val (.ref b87), .unset, .unset, .unset] [])
    refine g_aload X93 hx hby at_160 rfl rfl (rfl : 160 + 2 = 162) ?_
    have f95 : Arv Z h93 b82 k82 .byte (4 : Int32) [(.int (x1.toInt8.toInt32)), (.int (((x1.toUInt32 >>> ((8 : Int32) &&& 31).toUInt32).toInt32).toInt8.toInt32)), (.int (((x1.toUInt32 >>> ((16 : Int32) &&& 31).toUInt32).toInt32).toInt8.toInt32)), (.int (((x1.toUInt32 >>> ((24 : Int32) &&& 31).toUInt32).toInt32).toInt8.toInt32))] (.int (0 : Int32)) := (Arv.other (Arv.other (Arv.other (Arv.other (V86'.ext E87) W90 ne89) W91 ne89) W92 ne89) W93 ne89)
    obtain ⟨_, _, ⟨T94, L94, k94, n94⟩, -, X94, ⟨Lc94, hQ94, l94, y94, z94⟩, st94⟩ := Jvm.LawKit.callS X93 hx (y := (⟨"com/example/farshard/farshard/store/Murmur3", "hash32", "([B)I"⟩ : MethodName)) hown (mvT hZ (hw _ (List.mem_of_getElem? (i := 2) rfl))) (mvT hZ (hw _ (List.mem_of_getElem? (i := 3) rfl))) (mvT hZ (hw _ (List.mem_of_getElem? (i := 4) rfl))) (mvT hZ (hw _ (List.mem_of_getElem? (i := 5) rfl))) (by decide) (backOf (W := 0) (rm_hs4 l Z aT hw [] b82 k82 (x1.toInt8.toInt32) (((x1.toUInt32 >>> ((8 : Int32) &&& 31).toUInt32).toInt32).toInt8.toInt32) (((x1.toUInt32 >>> ((16 : Int32) &&& 31).toUInt32).toInt32).toInt8.toInt32) (((x1.toUInt32 >>> ((24 : Int32) &&& 31).toUInt32).toInt32).toInt8.toInt32) h93 n0 Z93 f95) hZ (hw _ (List.mem_of_getElem? (i := 5) rfl)) (hw _ (List.mem_of_getElem? (i := 4) rfl)) (by decide) (by decide)) (g := (mkF m 162 #[.val (.int x0), .val (.int x1), .val (.int x2), .val (.int (4 : Int32)), .val (.ref b82), .val (.ref b87), .unset, .unset, .unset] [(.ref b82)])) rfl (by rw [hml]; rfl) (argsL := [(.ref b82)]) (rest := []) (lenOf pd2 rfl) rfl (by show 2 * 0 + _ ≤ _; exact Nat.le_of_eq rfl) (hb hby at_162) (fun _ _ => ⟨rfl, e93, (by decide : 2 + 0 ≤ _), (by decide : 8 + 0 ≤ _)⟩)
    dsimp only [Pt.U, Pt.locs, Pt.cells, Pt.slots] at X94 l94 y94 z94 st94 hQ94
    subst l94 y94 z94
    obtain ⟨rfl, N94q, eq94⟩ := hQ94
    have N94 := Fr.app N93 N94q
    refine own_go st94 ?_
    show own_Got p e below _ T94 (mkF m 165 #[.val (.int x0), .val (.int x1), .val (.int x2), .val (.int (4 : Int32)), .val (.ref b82), .val (.ref b87), .unset, .unset, .unset] [(.int (F_hs4 (x1.toInt8.toInt32) (((x1.toUInt32 >>> ((8 : Int32) &&& 31).toUInt32).toInt32).toInt8.toInt32) (((x1.toUInt32 >>> ((16 : Int32) &&& 31).toUInt32).toInt32).toInt8.toInt32) (((x1.toUInt32 >>> ((24 : Int32) &&& 31).toUInt32).toInt32).toInt8.toInt32)))])
    refine g_istore X94 hx hby #[.val (.int x0), .val (.int x1), .val (.int x2), .val (.int (4 : Int32)), .val (.ref b82), .val (.ref b87), .val (.int (F_hs4 (x1.toInt8.toInt32) (((x1.toUInt32 >>> ((8 : Int32) &&& 31).toUInt32).toInt32).toInt8.toInt32) (((x1.toUInt32 >>> ((16 : Int32) &&& 31).toUInt32).toInt32).toInt8.toInt32) (((x1.toUInt32 >>> ((24 : Int32) &&& 31).toUInt32).toInt32).toInt8.toInt32))), .unset, .unset] at_165 rfl (rfl : 165 + 2 = 167) ?_
    refine g_iload X94 hx hby at_167 rfl (rfl : 167 + 2 = 169) ?_
    obtain ⟨_, _, ⟨T96, L96, k96, n96⟩, -, X96, ⟨Lc96, hQ96, l96, y96, z96⟩, st96⟩ := Jvm.LawKit.callS X94 hx (y := (⟨"com/example/farshard/farshard/store/Murmur3Hash32PinLaw", "invFmix", "(I)I"⟩ : MethodName)) hown (mvT hZ (hw _ (List.mem_of_getElem? (i := 8) rfl))) (mvT hZ (hw _ (List.mem_of_getElem? (i := 9) rfl))) (mvT hZ (hw _ (List.mem_of_getElem? (i := 10) rfl))) (mvT hZ (hw _ (List.mem_of_getElem? (i := 11) rfl))) (by decide) (backOf (W := 0) (rm_ifx l Z aT hw [] (F_hs4 (x1.toInt8.toInt32) (((x1.toUInt32 >>> ((8 : Int32) &&& 31).toUInt32).toInt32).toInt8.toInt32) (((x1.toUInt32 >>> ((16 : Int32) &&& 31).toUInt32).toInt32).toInt8.toInt32) (((x1.toUInt32 >>> ((24 : Int32) &&& 31).toUInt32).toInt32).toInt8.toInt32)) h93 n0 Z93) hZ (hw _ (List.mem_of_getElem? (i := 11) rfl)) (hw _ (List.mem_of_getElem? (i := 10) rfl)) (by decide) (by decide)) (g := (mkF m 169 #[.val (.int x0), .val (.int x1), .val (.int x2), .val (.int (4 : Int32)), .val (.ref b82), .val (.ref b87), .val (.int (F_hs4 (x1.toInt8.toInt32) (((x1.toUInt32 >>> ((8 : Int32) &&& 31).toUInt32).toInt32).toInt8.toInt32) (((x1.toUInt32 >>> ((16 : Int32) &&& 31).toUInt32).toInt32).toInt8.toInt32) (((x1.toUInt32 >>> ((24 : Int32) &&& 31).toUInt32).toInt32).toInt8.toInt32))), .unset, .unset] [(.int (F_hs4 (x1.toInt8.toInt32) (((x1.toUInt32 >>> ((8 : Int32) &&& 31).toUInt32).toInt32).toInt8.toInt32) (((x1.toUInt32 >>> ((16 : Int32) &&& 31).toUInt32).toInt32).toInt8.toInt32) (((x1.toUInt32 >>> ((24 : Int32) &&& 31).toUInt32).toInt32).toInt8.toInt32)))])) rfl (by rw [hml]; rfl) (argsL := [(.int (F_hs4 (x1.toInt8.toInt32) (((x1.toUInt32 >>> ((8 : Int32) &&& 31).toUInt32).toInt32).toInt8.toInt32) (((x1.toUInt32 >>> ((16 : Int32) &&& 31).toUInt32).toInt32).toInt8.toInt32) (((x1.toUInt32 >>> ((24 : Int32) &&& 31).toUInt32).toInt32).toInt8.toInt32)))]) (rest := []) (lenOf pd1 rfl) rfl (by show 2 * 0 + _ ≤ _; exact Nat.le_of_eq rfl) (hb hby at_169) (fun _ _ => ⟨rfl, eq94, (by decide : 2 + 0 ≤ _), (by decide : 8 + 0 ≤ _)⟩)
    dsimp only [Pt.U, Pt.locs, Pt.cells, Pt.slots] at X96 l96 y96 z96 st96 hQ96
    subst l96 y96 z96
    obtain ⟨rfl, N96q, eq96⟩ := hQ96
    have N96 := Fr.app N94 N96q
    refine own_go st96 ?_
    show own_Got p e below _ T96 (mkF m 172 #[.val (.int x0), .val (.int x1), .val (.int x2), .val (.int (4 : Int32)), .val (.ref b82), .val (.ref b87), .val (.int (F_hs4 (x1.toInt8.toInt32) (((x1.toUInt32 >>> ((8 : Int32) &&& 31).toUInt32).toInt32).toInt8.toInt32) (((x1.toUInt32 >>> ((16 : Int32) &&& 31).toUInt32).toInt32).toInt8.toInt32) (((x1.toUInt32 >>> ((24 : Int32) &&& 31).toUInt32).toInt32).toInt8.toInt32))), .unset, .unset] [(.int (F_ifx (F_hs4 (x1.toInt8.toInt32) (((x1.toUInt32 >>> ((8 : Int32) &&& 31).toUInt32).toInt32).toInt8.toInt32) (((x1.toUInt32 >>> ((16 : Int32) &&& 31).toUInt32).toInt32).toInt8.toInt32) (((x1.toUInt32 >>> ((24 : Int32) &&& 31).toUInt32).toInt32).toInt8.toInt32))))])
    refine g_iloadN X96 hx hby at_172 rfl (rfl : 172 + 1 = 173) ?_
    refine g_ixor X96 hx hby at_173 (rfl : 173 + 1 = 174) ?_
    refine g_istore X96 hx hby #[.val (.int x0), .val (.int x1), .val (.int x2), .val (.int (4 : Int32)), .val (.ref b82), .val (.ref b87), .val (.int (F_hs4 (x1.toInt8.toInt32) (((x1.toUInt32 >>> ((8 : Int32) &&& 31).toUInt32).toInt32).toInt8.toInt32) (((x1.toUInt32 >>> ((16 : Int32) &&& 31).toUInt32).toInt32).toInt8.toInt32) (((x1.toUInt32 >>> ((24 : Int32) &&& 31).toUInt32).toInt32).toInt8.toInt32))), .val (.int ((F_ifx (F_hs4 (x1.toInt8.toInt32) (((x1.toUInt32 >>> ((8 : Int32) &&& 31).toUInt32).toInt32).toInt8.toInt32) (((x1.toUInt32 >>> ((16 : Int32) &&& 31).toUInt32).toInt32).toInt8.toInt32) (((x1.toUInt32 >>> ((24 : Int32) &&& 31).toUInt32).toInt32).toInt8.toInt32))) ^^^ (4 : Int32))), .unset] at_174 rfl (rfl : 174 + 2 = 176) ?_
    refine g_iloadN X96 hx hby at_176 rfl (rfl : 176 + 1 = 177) ?_
    refine g_ifT X96 hx hby at_177 ((if0 _ _).trans (feq (by decide : ¬ ((4 : Int32) = (0 : Int32)))).2) (by decide) (pc' := 191) (by decide) ?_
    refine g_iloadN X96 hx hby at_191 rfl (rfl : 191 + 1 = 192) ?_
    refine g_iconst X96 hx hby (4 : Int32) at_192 (by decide) (rfl : 192 + 1 = 193) ?_
    refine g_icT X96 hx hby at_193 (flt (by decide : ¬ ((4 : Int32) < (4 : Int32)))).2.1 (by decide) (pc' := 220) (by decide) ?_
    refine g_iloadN X96 hx hby at_220 rfl (rfl : 220 + 1 = 221) ?_
    refine g_iconst X96 hx hby (4 : Int32) at_221 (by decide) (rfl : 221 + 1 = 222) ?_
    refine g_icF X96 hx hby at_222 (teq (by decide : (4 : Int32) = (4 : Int32))).2 (rfl : 222 + 3 = 225) ?_
    refine g_iload X96 hx hby at_225 rfl (rfl : 225 + 2 = 227) ?_
    obtain ⟨_, _, ⟨T97, L97, k97, n97⟩, -, X97, ⟨Lc97, hQ97, l97, y97, z97⟩, st97⟩ := Jvm.LawKit.callS X96 hx (y := (⟨"com/example/farshard/farshard/store/Murmur3Hash32PinLaw", "invStep", "(I)I"⟩ : MethodName)) hown (mvT hZ (hw _ (List.mem_of_getElem? (i := 32) rfl))) (mvT hZ (hw _ (List.mem_of_getElem? (i := 33) rfl))) (mvT hZ (hw _ (List.mem_of_getElem? (i := 10) rfl))) (mvT hZ (hw _ (List.mem_of_getElem? (i := 34) rfl))) (by decide) (backOf (W := 0) (rm_ist l Z aT hw [] ((F_ifx (F_hs4 (x1.toInt8.toInt32) (((x1.toUInt32 >>> ((8 : Int32) &&& 31).toUInt32).toInt32).toInt8.toInt32) (((x1.toUInt32 >>> ((16 : Int32) &&& 31).toUInt32).toInt32).toInt8.toInt32) (((x1.toUInt32 >>> ((24 : Int32) &&& 31).toUInt32).toInt32).toInt8.toInt32))) ^^^ (4 : Int32)) h93 n0 Z93) hZ (hw _ (List.mem_of_getElem? (i := 34) rfl)) (hw _ (List.mem_of_getElem? (i := 10) rfl)) (by decide) (by decide)) (g := (mkF m 227 #[.val (.int x0), .val (.int x1), .val (.int x2), .val (.int (4 : Int32)), .val (.ref b82), .val (.ref b87), .val (.int (F_hs4 (x1.toInt8.toInt32) (((x1.toUInt32 >>> ((8 : Int32) &&& 31).toUInt32).toInt32).toInt8.toInt32) (((x1.toUInt32 >>> ((16 : Int32) &&& 31).toUInt32).toInt32).toInt8.toInt32) (((x1.toUInt32 >>> ((24 : Int32) &&& 31).toUInt32).toInt32).toInt8.toInt32))), .val (.int ((F_ifx (F_hs4 (x1.toInt8.toInt32) (((x1.toUInt32 >>> ((8 : Int32) &&& 31).toUInt32).toInt32).toInt8.toInt32) (((x1.toUInt32 >>> ((16 : Int32) &&& 31).toUInt32).toInt32).toInt8.toInt32) (((x1.toUInt32 >>> ((24 : Int32) &&& 31).toUInt32).toInt32).toInt8.toInt32))) ^^^ (4 : Int32))), .unset] [(.int ((F_ifx (F_hs4 (x1.toInt8.toInt32) (((x1.toUInt32 >>> ((8 : Int32) &&& 31).toUInt32).toInt32).toInt8.toInt32) (((x1.toUInt32 >>> ((16 : Int32) &&& 31).toUInt32).toInt32).toInt8.toInt32) (((x1.toUInt32 >>> ((24 : Int32) &&& 31).toUInt32).toInt32).toInt8.toInt32))) ^^^ (4 : Int32)))])) rfl (by rw [hml]; rfl) (argsL := [(.int ((F_ifx (F_hs4 (x1.toInt8.toInt32) (((x1.toUInt32 >>> ((8 : Int32) &&& 31).toUInt32).toInt32).toInt8.toInt32) (((x1.toUInt32 >>> ((16 : Int32) &&& 31).toUInt32).toInt32).toInt8.toInt32) (((x1.toUInt32 >>> ((24 : Int32) &&& 31).toUInt32).toInt32).toInt8.toInt32))) ^^^ (4 : Int32)))]) (rest := []) (lenOf pd1 rfl) rfl (by show 2 * 0 + _ ≤ _; exact Nat.le_of_eq rfl) (hb hby at_227) (fun _ _ => ⟨rfl, eq96, (by decide : 2 + 0 ≤ _), (by decide : 8 + 0 ≤ _)⟩)
    dsimp only [Pt.U, Pt.locs, Pt.cells, Pt.slots] at X97 l97 y97 z97 st97 hQ97
    subst l97 y97 z97
    obtain ⟨rfl, N97q, eq97⟩ := hQ97
    have N97 := Fr.app N96 N97q
    refine own_go st97 ?_
    show own_Got p e below _ T97 (mkF m 230 #[.val (.int x0), .val (.int x1), .val (.int x2), .val (.int (4 : Int32)), .val (.ref b82), .val (.ref b87), .val (.int (F_hs4 (x1.toInt8.toInt32) (((x1.toUInt32 >>> ((8 : Int32) &&& 31).toUInt32).toInt32).toInt8.toInt32) (((x1.toUInt32 >>> ((16 : Int32) &&& 31).toUInt32).toInt32).toInt8.toInt32) (((x1.toUInt32 >>> ((24 : Int32) &&& 31).toUInt32).toInt32).toInt8.toInt32))), .val (.int ((F_ifx (F_hs4 (x1.toInt8.toInt32) (((x1.toUInt32 >>> ((8 : Int32) &&& 31).toUInt32).toInt32).toInt8.toInt32) (((x1.toUInt32 >>> ((16 : Int32) &&& 31).toUInt32).toInt32).toInt8.toInt32) (((x1.toUInt32 >>> ((24 : Int32) &&& 31).toUInt32).toInt32).toInt8.toInt32))) ^^^ (4 : Int32))), .unset] [(.int (F_ist ((F_ifx (F_hs4 (x1.toInt8.toInt32) (((x1.toUInt32 >>> ((8 : Int32) &&& 31).toUInt32).toInt32).toInt8.toInt32) (((x1.toUInt32 >>> ((16 : Int32) &&& 31).toUInt32).toInt32).toInt8.toInt32) (((x1.toUInt32 >>> ((24 : Int32) &&& 31).toUInt32).toInt32).toInt8.toInt32))) ^^^ (4 : Int32))))])
    obtain ⟨_, _, ⟨T98, L98, k98, n98⟩, -, X98, ⟨Lc98, hQ98, l98, y98, z98⟩, st98⟩ := Jvm.LawKit.callS X97 hx (y := (⟨"com/example/farshard/farshard/store/Murmur3Hash32PinLaw", "invMix", "(I)I"⟩ : MethodName)) hown (mvT hZ (hw _ (List.mem_of_getElem? (i := 26) rfl))) (mvT hZ (hw _ (List.mem_of_getElem? (i := 27) rfl))) (mvT hZ (hw _ (List.mem_of_getElem? (i := 10) rfl))) (mvT hZ (hw _ (List.mem_of_getElem? (i := 28) rfl))) (by decide) (backOf (W := 0) (rm_imx l Z aT hw [] (F_ist ((F_ifx (F_hs4 (x1.toInt8.toInt32) (((x1.toUInt32 >>> ((8 : Int32) &&& 31).toUInt32).toInt32).toInt8.toInt32) (((x1.toUInt32 >>> ((16 : Int32) &&& 31).toUInt32).toInt32).toInt8.toInt32) (((x1.toUInt32 >>> ((24 : Int32) &&& 31).toUInt32).toInt32).toInt8.toInt32))) ^^^ (4 : Int32))) h93 n0 Z93) hZ (hw _ (List.mem_of_getElem? (i := 28) rfl)) (hw _ (List.mem_of_getElem? (i := 10) rfl)) (by decide) (by decide)) (g := (mkF m 230 #[.val (.int x0), .val (.int x1), .val (.int x2), .val (.int (4 : Int32)), .val (.ref b82), .val (.ref b87), .val (.int (F_hs4 (x1.toInt8.toInt32) (((x1.toUInt32 >>> ((8 : Int32) &&& 31).toUInt32).toInt32).toInt8.toInt32) (((x1.toUInt32 >>> ((16 : Int32) &&& 31).toUInt32).toInt32).toInt8.toInt32) (((x1.toUInt32 >>> ((24 : Int32) &&& 31).toUInt32).toInt32).toInt8.toInt32))), .val (.int ((F_ifx (F_hs4 (x1.toInt8.toInt32) (((x1.toUInt32 >>> ((8 : Int32) &&& 31).toUInt32).toInt32).toInt8.toInt32) (((x1.toUInt32 >>> ((16 : Int32) &&& 31).toUInt32).toInt32).toInt8.toInt32) (((x1.toUInt32 >>> ((24 : Int32) &&& 31).toUInt32).toInt32).toInt8.toInt32))) ^^^ (4 : Int32))), .unset] [(.int (F_ist ((F_ifx (F_hs4 (x1.toInt8.toInt32) (((x1.toUInt32 >>> ((8 : Int32) &&& 31).toUInt32).toInt32).toInt8.toInt32) (((x1.toUInt32 >>> ((16 : Int32) &&& 31).toUInt32).toInt32).toInt8.toInt32) (((x1.toUInt32 >>> ((24 : Int32) &&& 31).toUInt32).toInt32).toInt8.toInt32))) ^^^ (4 : Int32))))])) rfl (by rw [hml]; rfl) (argsL := [(.int (F_ist ((F_ifx (F_hs4 (x1.toInt8.toInt32) (((x1.toUInt32 >>> ((8 : Int32) &&& 31).toUInt32).toInt32).toInt8.toInt32) (((x1.toUInt32 >>> ((16 : Int32) &&& 31).toUInt32).toInt32).toInt8.toInt32) (((x1.toUInt32 >>> ((24 : Int32) &&& 31).toUInt32).toInt32).toInt8.toInt32))) ^^^ (4 : Int32))))]) (rest := []) (lenOf pd1 rfl) rfl (by show 2 * 0 + _ ≤ _; exact Nat.le_of_eq rfl) (hb hby at_230) (fun _ _ => ⟨rfl, eq97, (by decide : 2 + 0 ≤ _), (by decide : 8 + 0 ≤ _)⟩)
    dsimp only [Pt.U, Pt.locs, Pt.cells, Pt.slots] at X98 l98 y98 z98 st98 hQ98
    subst l98 y98 z98
    obtain ⟨rfl, N98q, eq98⟩ := hQ98
    have N98 := Fr.app N97 N98q
    refine own_go st98 ?_
    show own_Got p e below _ T98 (mkF m 233 #[.val (.int x0), .val (.int x1), .val (.int x2), .val (.int (4 : Int32)), .val (.ref b82), .val (.ref b87), .val (.int (F_hs4 (x1.toInt8.toInt32) (((x1.toUInt32 >>> ((8 : Int32) &&& 31).toUInt32).toInt32).toInt8.toInt32) (((x1.toUInt32 >>> ((16 : Int32) &&& 31).toUInt32).toInt32).toInt8.toInt32) (((x1.toUInt32 >>> ((24 : Int32) &&& 31).toUInt32).toInt32).toInt8.toInt32))), .val (.int ((F_ifx (F_hs4 (x1.toInt8.toInt32) (((x1.toUInt32 >>> ((8 : Int32) &&& 31).toUInt32).toInt32).toInt8.toInt32) (((x1.toUInt32 >>> ((16 : Int32) &&& 31).toUInt32).toInt32).toInt8.toInt32) (((x1.toUInt32 >>> ((24 : Int32) &&& 31).toUInt32).toInt32).toInt8.toInt32))) ^^^ (4 : Int32))), .unset] [(.int (F_imx (F_ist ((F_ifx (F_hs4 (x1.toInt8.toInt32) (((x1.toUInt32 >>> ((8 : Int32) &&& 31).toUInt32).toInt32).toInt8.toInt32) (((x1.toUInt32 >>> ((16 : Int32) &&& 31).toUInt32).toInt32).toInt8.toInt32) (((x1.toUInt32 >>> ((24 : Int32) &&& 31).toUInt32).toInt32).toInt8.toInt32))) ^^^ (4 : Int32)))))])
    refine g_iloadN X98 hx hby at_233 rfl (rfl : 233 + 1 = 234) ?_
    have c99 : (F_imx (F_ist ((F_ifx (F_hs4 (x1.toInt8.toInt32) (((x1.toUInt32 >>> ((8 : Int32) &&& 31).toUInt32).toInt32).toInt8.toInt32) (((x1.toUInt32 >>> ((16 : Int32) &&& 31).toUInt32).toInt32).toInt8.toInt32) (((x1.toUInt32 >>> ((24 : Int32) &&& 31).toUInt32).toInt32).toInt8.toInt32))) ^^^ (4 : Int32)))) = x1 := own_h4 x1
    refine g_icF X98 hx hby at_234 (teq c99).2 (rfl : 234 + 3 = 237) ?_
    refine g_iconst X98 hx hby (1 : Int32) at_237 (by decide) (rfl : 237 + 1 = 238) ?_
    refine g_goto X98 hx hby at_238 (by decide) (pc' := 242) (by decide) ?_
    refine own_retN X98 hx hby hlk (t := .boolean) hrt (by simp) at_242 (by decide) (by decide) ?_
    show Q_law Z x0 x1 x2 h0 n0 _ T98.heap _
    exact ⟨rfl, N98⟩
  · rw [hk25]
    refine g_iloadN X0 hx hby at_8 rfl (rfl : 8 + 1 = 9) ?_
    obtain ⟨T100, h100, k100, X100, e100, E100, A100, B100, st100⟩ := newPE X0 hx hZ (hw _ (List.mem_of_getElem? (i := 1) rfl)) e0 (g := (mkF m 9 #[.val (.int x0), .val (.int x1), .val (.int x2), .val (.int (5 : Int32)), .unset, .unset, .unset, .unset, .unset] [(.int (5 : Int32))])) rfl (hb hby at_9) rfl (by decide) (cap := 5) (by decide) (by decide) (by decide) (by decide) (ad := "[B") (by decide +kernel)
    obtain ⟨b100, g100⟩ : ∃ z, z = h0.size := ⟨_, rfl⟩
    rw [← g100] at A100 B100 st100
    have Z100 : n0 ≤ h100.size := Nat.le_trans Z0 E100.1
    have ge100 : n0 ≤ b100 := Nat.le_trans Z0 (Nat.le_of_eq g100.symm)
    have V100 : Arv Z h100 b100 k100 .byte (5 : Int32) [(.int (0 : Int32)), (.int (0 : Int32)), (.int (0 : Int32)), (.int (0 : Int32)), (.int (0 : Int32))] (.int (0 : Int32)) := (Arv.new A100 (by decide)).pad (pad_rep [] _ 5)
    refine own_go st100 ?_
    show own_Got p e below _ T100 (mkF m 11 #[.val (.int x0), .val (.int x1), .val (.int x2), .val (.int (5 : Int32)), .unset, .unset, .unset, .unset, .unset] [(.ref b100)])
    refine g_astore X100 hx hby #[.val (.int x0), .val (.int x1), .val (.int x2), .val (.int (5 : Int32)), .val (.ref b100), .unset, .unset, .unset, .unset] at_11 rfl rfl (rfl : 11 + 2 = 13) ?_
    refine g_iloadN X100 hx hby at_13 rfl (rfl : 13 + 1 = 14) ?_
    refine g_ifF X100 hx hby at_14 ((if0 _ _).trans (tlt (by decide : (0 : Int32) < (5 : Int32))).2.2.2) (rfl : 14 + 3 = 17) ?_
    refine g_aload X100 hx hby at_17 rfl rfl (rfl : 17 + 2 = 19) ?_
    refine g_iconst X100 hx hby (0 : Int32) at_19 (by decide) (rfl : 19 + 1 = 20) ?_
    refine g_iloadN X100 hx hby at_20 rfl (rfl : 20 + 1 = 21) ?_
    refine g_i2b X100 hx hby at_21 (rfl : 21 + 1 = 22) ?_
    obtain ⟨T101, h101, X101, e101, W101, V101, st101⟩ := a_bastore X100 hx hby hZ e100 (ls := #[.val (.int x0), .val (.int x1), .val (.int x2), .val (.int (5 : Int32)), .val (.ref b100), .unset, .unset, .unset, .unset]) (st := []) (j := (0 : Int32)) (x1.toInt8.toInt32) 0 V100 ⟨by decide, by decide⟩ (by decide) (Nat.le_of_ble_eq_true rfl) at_22
    have Z101 : n0 ≤ h101.size := Nat.le_trans Z100 (Keep.of_wr W101).1
    have N101 := Fr.snoc X101 N0 ge100
    have V101' : Arv Z h101 b100 k100 .byte (5 : Int32) [(.int (x1.toInt8.toInt32)), (.int (0 : Int32)), (.int (0 : Int32)), (.int (0 : Int32)), (.int (0 : Int32))] (.int (0 : Int32)) := by have q := V101; rw [own_nb] at q; exact q
    refine own_go st101 ?_
    show own_Got p e below _ T101 (mkF m 23 #[.val (.int x0), .val (.int x1), .val (.int x2), .val (.int (5 : Int32)), .val (.ref b100), .unset, .unset, .unset, .unset] [])
    refine g_iloadN X101 hx hby at_23 rfl (rfl : 23 + 1 = 24) ?_
    refine g_iconst X101 hx hby (1 : Int32) at_24 (by decide) (rfl : 24 + 1 = 25) ?_
    refine g_icF X101 hx hby at_25 (tlt (by decide : (1 : Int32) < (5 : Int32))).2.2.2 (rfl : 25 + 3 = 28) ?_
    refine g_aload X101 hx hby at_28 rfl rfl (rfl : 28 + 2 = 30) ?_
    refine g_iconst X101 hx hby (1 : Int32) at_30 (by decide) (rfl : 30 + 1 = 31) ?_
    refine g_iloadN X101 hx hby at_31 rfl (rfl : 31 + 1 = 32) ?_
    refine g_bipush X101 hx hby (8 : Int32) at_32 (by decide) (rfl : 32 + 2 = 34) ?_
    refine g_iushr X101 hx hby at_34 (rfl : 34 + 1 = 35) ?_
    refine g_i2b X101 hx hby at_35 (rfl : 35 + 1 = 36) ?_
    obtain ⟨T102, h102, X102, e102, W102, V102, st102⟩ := a_bastore X101 hx hby hZ e101 (ls := #[.val (.int x0), .val (.int x1), .val (.int x2), .val (.int (5 : Int32)), .val (.ref b100), .unset, .unset, .unset, .unset]) (st := []) (j := (1 : Int32)) (((x1.toUInt32 >>> ((8 : Int32) &&& 31).toUInt32).toInt32).toInt8.toInt32) 1 V101' ⟨by decide, by decide⟩ (by decide) (Nat.le_of_ble_eq_true rfl) at_36
    have Z102 : n0 ≤ h102.size := Nat.le_trans Z101 (Keep.of_wr W102).1
    have N102 := Fr.snoc X102 N101 ge100
    have V102' : Arv Z h102 b100 k100 .byte (5 : Int32) [(.int (x1.toInt8.toInt32)), (.int (((x1.toUInt32 >>> ((8 : Int32) &&& 31).toUInt32).toInt32).toInt8.toInt32)), (.int (0 : Int32)), (.int (0 : Int32)), (.int (0 : Int32))] (.int (0 : Int32)) := by have q := V102; rw [own_nb] at q; exact q
    refine own_go st102 ?_
    show own_Got p e below _ T102 (mkF m 37 #[.val (.int x0), .val (.int x1), .val (.int x2), .val (.int (5 : Int32)), .val (.ref b100), .unset, .unset, .unset, .unset] [])
    refine g_iloadN X102 hx hby at_37 rfl (rfl : 37 + 1 = 38) ?_
    refine g_iconst X102 hx hby (2 : Int32) at_38 (by decide) (rfl : 38 + 1 = 39) ?_
    refine g_icF X102 hx hby at_39 (tlt (by decide : (2 : Int32) < (5 : Int32))).2.2.2 (rfl : 39 + 3 = 42) ?_
    refine g_aload X102 hx hby at_42 rfl rfl (rfl : 42 + 2 = 44) ?_
    refine g_iconst X102 hx hby (2 : Int32) at_44 (by decide) (rfl : 44 + 1 = 45) ?_
    refine g_iloadN X102 hx hby at_45 rfl (rfl : 45 + 1 = 46) ?_
    refine g_bipush X102 hx hby (16 : Int32) at_46 (by decide) (rfl : 46 + 2 = 48) ?_
    refine g_iushr X102 hx hby at_48 (rfl : 48 + 1 = 49) ?_
    refine g_i2b X102 hx hby at_49 (rfl : 49 + 1 = 50) ?_
    obtain ⟨T103, h103, X103, e103, W103, V103, st103⟩ := a_bastore X102 hx hby hZ e102 (ls := #[.val (.int x0), .val (.int x1), .val (.int x2), .val (.int (5 : Int32)), .val (.ref b100), .unset, .unset, .unset, .unset]) (st := []) (j := (2 : Int32)) (((x1.toUInt32 >>> ((16 : Int32) &&& 31).toUInt32).toInt32).toInt8.toInt32) 2 V102' ⟨by decide, by decide⟩ (by decide) (Nat.le_of_ble_eq_true rfl) at_50
    have Z103 : n0 ≤ h103.size := Nat.le_trans Z102 (Keep.of_wr W103).1
    have N103 := Fr.snoc X103 N102 ge100
    have V103' : Arv Z h103 b100 k100 .byte (5 : Int32) [(.int (x1.toInt8.toInt32)), (.int (((x1.toUInt32 >>> ((8 : Int32) &&& 31).toUInt32).toInt32).toInt8.toInt32)), (.int (((x1.toUInt32 >>> ((16 : Int32) &&& 31).toUInt32).toInt32).toInt8.toInt32)), (.int (0 : Int32)), (.int (0 : Int32))] (.int (0 : Int32)) := by have q := V103; rw [own_nb] at q; exact q
    refine own_go st103 ?_
    show own_Got p e below _ T103 (mkF m 51 #[.val (.int x0), .val (.int x1), .val (.int x2), .val (.int (5 : Int32)), .val (.ref b100), .unset, .unset, .unset, .unset] [])
    refine g_iloadN X103 hx hby at_51 rfl (rfl : 51 + 1 = 52) ?_
    refine g_iconst X103 hx hby (3 : Int32) at_52 (by decide) (rfl : 52 + 1 = 53) ?_
    refine g_icF X103 hx hby at_53 (tlt (by decide : (3 : Int32) < (5 : Int32))).2.2.2 (rfl : 53 + 3 = 56) ?_
    refine g_aload X103 hx hby at_56 rfl rfl (rfl : 56 + 2 = 58) ?_
    refine g_iconst X103 hx hby (3 : Int32) at_58 (by decide) (rfl : 58 + 1 = 59) ?_
    refine g_iloadN X103 hx hby at_59 rfl (rfl : 59 + 1 = 60) ?_
    refine g_bipush X103 hx hby (24 : Int32) at_60 (by decide) (rfl : 60 + 2 = 62) ?_
    refine g_iushr X103 hx hby at_62 (rfl : 62 + 1 = 63) ?_
    refine g_i2b X103 hx hby at_63 (rfl : 63 + 1 = 64) ?_
    obtain ⟨T104, h104, X104, e104, W104, V104, st104⟩ := a_bastore X103 hx hby hZ e103 (ls := #[.val (.int x0), .val (.int x1), .val (.int x2), .val (.int (5 : Int32)), .val (.ref b100), .unset, .unset, .unset, .unset]) (st := []) (j := (3 : Int32)) (((x1.toUInt32 >>> ((24 : Int32) &&& 31).toUInt32).toInt32).toInt8.toInt32) 3 V103' ⟨by decide, by decide⟩ (by decide) (Nat.le_of_ble_eq_true rfl) at_64
    have Z104 : n0 ≤ h104.size := Nat.le_trans Z103 (Keep.of_wr W104).1
    have N104 := Fr.snoc X104 N103 ge100
    have V104' : Arv Z h104 b100 k100 .byte (5 : Int32) [(.int (x1.toInt8.toInt32)), (.int (((x1.toUInt32 >>> ((8 : Int32) &&& 31).toUInt32).toInt32).toInt8.toInt32)), (.int (((x1.toUInt32 >>> ((16 : Int32) &&& 31).toUInt32).toInt32).toInt8.toInt32)), (.int (((x1.toUInt32 >>> ((24 : Int32) &&& 31).toUInt32).toInt32).toInt8.toInt32)), (.int (0 : Int32))] (.int (0 : Int32)) := by have q := V104; rw [own_nb] at q; exact q
    refine own_go st104 ?_
    show own_Got p e below _ T104 (mkF m 65 #[.val (.int x0), .val (.int x1), .val (.int x2), .val (.int (5 : Int32)), .val (.ref b100), .unset, .unset, .unset, .unset] [])
    refine g_iloadN X104 hx hby at_65 rfl (rfl : 65 + 1 = 66) ?_
    refine g_iconst X104 hx hby (4 : Int32) at_66 (by decide) (rfl : 66 + 1 = 67) ?_
    refine g_icF X104 hx hby at_67 (tlt (by decide : (4 : Int32) < (5 : Int32))).2.2.2 (rfl : 67 + 3 = 70) ?_
    refine g_aload X104 hx hby at_70 rfl rfl (rfl : 70 + 2 = 72) ?_
    refine g_iconst X104 hx hby (4 : Int32) at_72 (by decide) (rfl : 72 + 1 = 73) ?_
    refine g_iloadN X104 hx hby at_73 rfl (rfl : 73 + 1 = 74) ?_
    refine g_i2b X104 hx hby at_74 (rfl : 74 + 1 = 75) ?_
    obtain ⟨T105, h105, X105, e105, W105, V105, st105⟩ := a_bastore X104 hx hby hZ e104 (ls := #[.val (.int x0), .val (.int x1), .val (.int x2), .val (.int (5 : Int32)), .val (.ref b100), .unset, .unset, .unset, .unset]) (st := []) (j := (4 : Int32)) (x2.toInt8.toInt32) 4 V104' ⟨by decide, by decide⟩ (by decide) (Nat.le_of_ble_eq_true rfl) at_75
    have Z105 : n0 ≤ h105.size := Nat.le_trans Z104 (Keep.of_wr W105).1
    have N105 := Fr.snoc X105 N104 ge100
    have V105' : Arv Z h105 b100 k100 .byte (5 : Int32) [(.int (x1.toInt8.toInt32)), (.int (((x1.toUInt32 >>> ((8 : Int32) &&& 31).toUInt32).toInt32).toInt8.toInt32)), (.int (((x1.toUInt32 >>> ((16 : Int32) &&& 31).toUInt32).toInt32).toInt8.toInt32)), (.int (((x1.toUInt32 >>> ((24 : Int32) &&& 31).toUInt32).toInt32).toInt8.toInt32)), (.int (x2.toInt8.toInt32))] (.int (0 : Int32)) := by have q := V105; rw [own_nb] at q; exact q
    refine own_go st105 ?_
    show own_Got p e below _ T105 (mkF m 76 #[.val (.int x0), .val (.int x1), .val (.int x2), .val (.int (5 : Int32)), .val (.ref b100), .unset, .unset, .unset, .unset] [])
    refine g_iloadN X105 hx hby at_76 rfl (rfl : 76 + 1 = 77) ?_
    refine g_iconst X105 hx hby (5 : Int32) at_77 (by decide) (rfl : 77 + 1 = 78) ?_
    refine g_icT X105 hx hby at_78 (flt (by decide : ¬ ((5 : Int32) < (5 : Int32)))).2.2.2 (by decide) (pc' := 90) (by decide) ?_
    refine g_iloadN X105 hx hby at_90 rfl (rfl : 90 + 1 = 91) ?_
    refine g_bipush X105 hx hby (6 : Int32) at_91 (by decide) (rfl : 91 + 2 = 93) ?_
    refine g_icT X105 hx hby at_93 (flt (by decide : ¬ ((6 : Int32) < (5 : Int32)))).2.2.2 (by decide) (pc' := 106) (by decide) ?_
    refine g_iloadN X105 hx hby at_106 rfl (rfl : 106 + 1 = 107) ?_
    refine g_bipush X105 hx hby (7 : Int32) at_107 (by decide) (rfl : 107 + 2 = 109) ?_
    refine g_icT X105 hx hby at_109 (flt (by decide : ¬ ((7 : Int32) < (5 : Int32)))).2.2.2 (by decide) (pc' := 122) (by decide) ?_
    refine g_iconst X105 hx hby (4 : Int32) at_122 (by decide) (rfl : 122 + 1 = 123) ?_
    have f107 : Exa Z h105 b100 "[B" := (Exa.wr W105 (Exa.wr W104 (Exa.wr W103 (Exa.wr W102 (Exa.wr W101 B100)))))
    obtain ⟨T106, h106, k106, X106, e106, E106, A106, B106, st106⟩ := newPE X105 hx hZ (hw _ (List.mem_of_getElem? (i := 1) rfl)) e105 (g := (mkF m 123 #[.val (.int x0), .val (.int x1), .val (.int x2), .val (.int (5 : Int32)), .val (.ref b100), .unset, .unset, .unset, .unset] [(.int (4 : Int32))])) rfl (hb hby at_123) rfl (by decide) (cap := 4) (by decide) (by decide) (by decide) (by decide) (ad := "[B") (by decide +kernel)
    obtain ⟨b106, g106⟩ : ∃ z, z = h105.size := ⟨_, rfl⟩
    rw [← g106] at A106 B106 st106
    have ne108 : b100 ≠ b106 := Nat.ne_of_lt (Nat.lt_of_lt_of_le (f107).lt (Nat.le_of_eq g106.symm))
    have Z106 : n0 ≤ h106.size := Nat.le_trans Z105 E106.1
    have ge106 : n0 ≤ b106 := Nat.le_trans Z105 (Nat.le_of_eq g106.symm)
    have V106 : Arv Z h106 b106 k106 .byte (4 : Int32) [(.int (0 : Int32)), (.int (0 : Int32)), (.int (0 : Int32)), (.int (0 : Int32))] (.int (0 : Int32)) := (Arv.new A106 (by decide)).pad (pad_rep [] _ 4)
    refine own_go st106 ?_
    show own_Got p e below _ T106 (mkF m 125 #[.val (.int x0), .val (.int x1), .val (.int x2), .val (.int (5 : Int32)), .val (.ref b100), .unset, .unset, .unset, .unset] [(.ref b106)])
    refine g_astore X106 hx hby #[.val (.int x0), .val (.int x1), .val (.int x2), .val (.int (5 : Int32)), .val (.ref b100), .val (.ref b106), .unset, .unset, .unset] at_125 rfl rfl (rfl : 125 + 2 = 127) ?_
    refine g_aload X106 hx hby at_127 rfl rfl (rfl : 127 + 2 = 129) ?_
    refine g_iconst X106 hx hby (0 : Int32) at_129 (by decide) (rfl : 129 + 1 = 130) ?_
    refine g_iloadN X106 hx hby at_130 rfl (rfl : 130 + 1 = 131) ?_
    refine g_i2b X106 hx hby at_131 (rfl : 131 + 1 = 132) ?_
    obtain ⟨T109, h109, X109, e109, W109, V109, st109⟩ := a_bastore X106 hx hby hZ e106 (ls := #[.val (.int x0), .val (.int x1), .val (.int x2), .val (.int (5 : Int32)), .val (.ref b100), .val (.ref b106), .unset, .unset, .unset]) (st := []) (j := (0 : Int32)) (x1.toInt8.toInt32) 0 V106 ⟨by decide, by decide⟩ (by decide) (Nat.le_of_ble_eq_true rfl) at_132
    have Z109 : n0 ≤ h109.size := Nat.le_trans Z106 (Keep.of_wr W109).1
    have N109 := Fr.snoc X109 N105 ge106
    have V109' : Arv Z h109 b106 k106 .byte (4 : Int32) [(.int (x1.toInt8.toInt32)), (.int (0 : Int32)), (.int (0 : Int32)), (.int (0 : Int32))] (.int (0 : Int32)) := by have q := V109; rw [own_nb] at q; exact q
    refine own_go st109 ?_
    show own_Got p e below _ T109 (mkF m 133 #[.val (.int x0), .val (.int x1), .val (.int x2), .val (.int (5 : Int32)), .val (.ref b100), .val (.ref b106), .unset, .unset, .unset] [])
    refine g_aload X109 hx hby at_133 rfl rfl (rfl : 133 + 2 = 135) ?_
    refine g_iconst X109 hx hby (1 : Int32) at_135 (by decide) (rfl : 135 + 1 = 136) ?_
    refine g_iloadN X109 hx hby at_136 rfl (rfl : 136 + 1 = 137) ?_
    refine g_bipush X109 hx hby (8 : Int32) at_137 (by decide) (rfl : 137 + 2 = 139) ?_
    refine g_iushr X109 hx hby at_139 (rfl : 139 + 1 = 140) ?_
    refine g_i2b X109 hx hby at_140 (rfl : 140 + 1 = 141) ?_
    obtain ⟨T110, h110, X110, e110, W110, V110, st110⟩ := a_bastore X109 hx hby hZ e109 (ls := #[.val (.int x0), .val (.int x1), .val (.int x2), .val (.int (5 : Int32)), .val (.ref b100), .val (.ref b106), .unset, .unset, .unset]) (st := []) (j := (1 : Int32)) (((x1.toUInt32 >>> ((8 : Int32) &&& 31).toUInt32).toInt32).toInt8.toInt32) 1 V109' ⟨by decide, by decide⟩ (by decide) (Nat.le_of_ble_eq_true rfl) at_141
    have Z110 : n0 ≤ h110.size := Nat.le_trans Z109 (Keep.of_wr W110).1
    have N110 := Fr.snoc X110 N109 ge106
    have V110' : Arv Z h110 b106 k106 .byte (4 : Int32) [(.int (x1.toInt8.toInt32)), (.int (((x1.toUInt32 >>> ((8 : Int32) &&& 31).toUInt32).toInt32).toInt8.toInt32)), (.int (0 : Int32)), (.int (0 : Int32))] (.int (0 : Int32)) := by have q := V110; rw [own_nb] at q; exact q
    refine own_go st110 ?_
    show own_Got p e below _ T110 (mkF m 142 #[.val (.int x0), .val (.int x1), .val (.int x2), .val (.int (5 : Int32)), .val (.ref b100), .val (.ref b106), .unset, .unset, .unset] [])
    refine g_aload X110 hx hby at_142 rfl rfl (rfl : 142 + 2 = 144) ?_
    refine g_iconst X110 hx hby (2 : Int32) at_144 (by decide) (rfl : 144 + 1 = 145) ?_
    refine g_iloadN X110 hx hby at_145 rfl (rfl : 145 + 1 = 146) ?_
    refine g_bipush X110 hx hby (16 : Int32) at_146 (by decide) (rfl : 146 + 2 = 148) ?_
    refine g_iushr X110 hx hby at_148 (rfl : 148 + 1 = 149) ?_
    refine g_i2b X110 hx hby at_149 (rfl : 149 + 1 = 150) ?_
    obtain ⟨T111, h111, X111, e111, W111, V111, st111⟩ := a_bastore X110 hx hby hZ e110 (ls := #[.val (.int x0), .val (.int x1), .val (.int x2), .val (.int (5 : Int32)), .val (.ref b100), .val (.ref b106), .unset, .unset, .unset]) (st := []) (j := (2 : Int32)) (((x1.toUInt32 >>> ((16 : Int32) &&& 31).toUInt32).toInt32).toInt8.toInt32) 2 V110' ⟨by decide, by decide⟩ (by decide) (Nat.le_of_ble_eq_true rfl) at_150
    have Z111 : n0 ≤ h111.size := Nat.le_trans Z110 (Keep.of_wr W111).1
    have N111 := Fr.snoc X111 N110 ge106
    have V111' : Arv Z h111 b106 k106 .byte (4 : Int32) [(.int (x1.toInt8.toInt32)), (.int (((x1.toUInt32 >>> ((8 : Int32) &&& 31).toUInt32).toInt32).toInt8.toInt32)), (.int (((x1.toUInt32 >>> ((16 : Int32) &&& 31).toUInt32).toInt32).toInt8.toInt32)), (.int (0 : Int32))] (.int (0 : Int32)) := by have q := V111; rw [own_nb] at q; exact q
    refine own_go st111 ?_
    show own_Got p e below _ T111 (mkF m 151 #[.val (.int x0), .val (.int x1), .val (.int x2), .val (.int (5 : Int32)), .val (.ref b100), .val (.ref b106), .unset, .unset, .unset] [])
    refine g_aload X111 hx hby at_151 rfl rfl (rfl : 151 + 2 = 153) ?_
    refine g_iconst X111 hx hby (3 : Int32) at_153 (by decide) (rfl : 153 + 1 = 154) ?_
    refine g_iloadN X111 hx hby at_154 rfl (rfl : 154 + 1 = 155) ?_
    refine g_bipush X111 hx hby (24 : Int32) at_155 (by decide) (rfl : 155 + 2 = 157) ?_
    refine g_iushr X111 hx hby at_157 (rfl : 157 + 1 = 158) ?_
    refine g_i2b X111 hx hby at_158 (rfl : 158 + 1 = 159) ?_
    obtain ⟨T112, h112, X112, e112, W112, V112, st112⟩ := a_bastore X111 hx hby hZ e111 (ls := #[.val (.int x0), .val (.int x1), .val (.int x2), .val (.int (5 : Int32)), .val (.ref b100), .val (.ref b106), .unset, .unset, .unset]) (st := []) (j := (3 : Int32)) (((x1.toUInt32 >>> ((24 : Int32) &&& 31).toUInt32).toInt32).toInt8.toInt32) 3 V111' ⟨by decide, by decide⟩ (by decide) (Nat.le_of_ble_eq_true rfl) at_159
    have Z112 : n0 ≤ h112.size := Nat.le_trans Z111 (Keep.of_wr W112).1
    have N112 := Fr.snoc X112 N111 ge106
    have V112' : Arv Z h112 b106 k106 .byte (4 : Int32) [(.int (x1.toInt8.toInt32)), (.int (((x1.toUInt32 >>> ((8 : Int32) &&& 31).toUInt32).toInt32).toInt8.toInt32)), (.int (((x1.toUInt32 >>> ((16 : Int32) &&& 31).toUInt32).toInt32).toInt8.toInt32)), (.int (((x1.toUInt32 >>> ((24 : Int32) &&& 31).toUInt32).toInt32).toInt8.toInt32))] (.int (0 : Int32)) := by have q := V112; rw [own_nb] at q; exact q
    refine own_go st112 ?_
    show own_Got p e below _ T112 (mkF m 160 #[.val (.int x0), .val (.int x1), .val (.int x2), .val (.int (5 : Int32)), .val (.ref b100), .val (.ref b106), .unset, .unset, .unset] [])
    refine g_aload X112 hx hby at_160 rfl rfl (rfl : 160 + 2 = 162) ?_
    have f114 : Arv Z h112 b100 k100 .byte (5 : Int32) [(.int (x1.toInt8.toInt32)), (.int (((x1.toUInt32 >>> ((8 : Int32) &&& 31).toUInt32).toInt32).toInt8.toInt32)), (.int (((x1.toUInt32 >>> ((16 : Int32) &&& 31).toUInt32).toInt32).toInt8.toInt32)), (.int (((x1.toUInt32 >>> ((24 : Int32) &&& 31).toUInt32).toInt32).toInt8.toInt32)), (.int (x2.toInt8.toInt32))] (.int (0 : Int32)) := (Arv.other (Arv.other (Arv.other (Arv.other (V105'.ext E106) W109 ne108) W110 ne108) W111 ne108) W112 ne108)
    obtain ⟨_, _, ⟨T113, L113, k113, n113⟩, -, X113, ⟨Lc113, hQ113, l113, y113, z113⟩, st113⟩ := Jvm.LawKit.callS X112 hx (y := (⟨"com/example/farshard/farshard/store/Murmur3", "hash32", "([B)I"⟩ : MethodName)) hown (mvT hZ (hw _ (List.mem_of_getElem? (i := 2) rfl))) (mvT hZ (hw _ (List.mem_of_getElem? (i := 3) rfl))) (mvT hZ (hw _ (List.mem_of_getElem? (i := 4) rfl))) (mvT hZ (hw _ (List.mem_of_getElem? (i := 5) rfl))) (by decide) (backOf (W := 0) (rm_hs5 l Z aT hw [] b100 k100 (x1.toInt8.toInt32) (((x1.toUInt32 >>> ((8 : Int32) &&& 31).toUInt32).toInt32).toInt8.toInt32) (((x1.toUInt32 >>> ((16 : Int32) &&& 31).toUInt32).toInt32).toInt8.toInt32) (((x1.toUInt32 >>> ((24 : Int32) &&& 31).toUInt32).toInt32).toInt8.toInt32) (x2.toInt8.toInt32) h112 n0 Z112 f114) hZ (hw _ (List.mem_of_getElem? (i := 5) rfl)) (hw _ (List.mem_of_getElem? (i := 4) rfl)) (by decide) (by decide)) (g := (mkF m 162 #[.val (.int x0), .val (.int x1), .val (.int x2), .val (.int (5 : Int32)), .val (.ref b100), .val (.ref b106), .unset, .unset, .unset] [(.ref b100)])) rfl (by rw [hml]; rfl) (argsL := [(.ref b100)]) (rest := []) (lenOf pd2 rfl) rfl (by show 2 * 0 + _ ≤ _; exact Nat.le_of_eq rfl) (hb hby at_162) (fun _ _ => ⟨rfl, e112, (by decide : 2 + 0 ≤ _), (by decide : 9 + 0 ≤ _)⟩)
    dsimp only [Pt.U, Pt.locs, Pt.cells, Pt.slots] at X113 l113 y113 z113 st113 hQ113
    subst l113 y113 z113
    obtain ⟨rfl, N113q, eq113⟩ := hQ113
    have N113 := Fr.app N112 N113q
    refine own_go st113 ?_
    show own_Got p e below _ T113 (mkF m 165 #[.val (.int x0), .val (.int x1), .val (.int x2), .val (.int (5 : Int32)), .val (.ref b100), .val (.ref b106), .unset, .unset, .unset] [(.int (F_hs5 (x1.toInt8.toInt32) (((x1.toUInt32 >>> ((8 : Int32) &&& 31).toUInt32).toInt32).toInt8.toInt32) (((x1.toUInt32 >>> ((16 : Int32) &&& 31).toUInt32).toInt32).toInt8.toInt32) (((x1.toUInt32 >>> ((24 : Int32) &&& 31).toUInt32).toInt32).toInt8.toInt32) (x2.toInt8.toInt32)))])
    refine g_istore X113 hx hby #[.val (.int x0), .val (.int x1), .val (.int x2), .val (.int (5 : Int32)), .val (.ref b100), .val (.ref b106), .val (.int (F_hs5 (x1.toInt8.toInt32) (((x1.toUInt32 >>> ((8 : Int32) &&& 31).toUInt32).toInt32).toInt8.toInt32) (((x1.toUInt32 >>> ((16 : Int32) &&& 31).toUInt32).toInt32).toInt8.toInt32) (((x1.toUInt32 >>> ((24 : Int32) &&& 31).toUInt32).toInt32).toInt8.toInt32) (x2.toInt8.toInt32))), .unset, .unset] at_165 rfl (rfl : 165 + 2 = 167) ?_
    refine g_iload X113 hx hby at_167 rfl (rfl : 167 + 2 = 169) ?_
    obtain ⟨_, _, ⟨T115, L115, k115, n115⟩, -, X115, ⟨Lc115, hQ115, l115, y115, z115⟩, st115⟩ := Jvm.LawKit.callS X113 hx (y := (⟨"com/example/farshard/farshard/store/Murmur3Hash32PinLaw", "invFmix", "(I)I"⟩ : MethodName)) hown (mvT hZ (hw _ (List.mem_of_getElem? (i := 8) rfl))) (mvT hZ (hw _ (List.mem_of_getElem? (i := 9) rfl))) (mvT hZ (hw _ (List.mem_of_getElem? (i := 10) rfl))) (mvT hZ (hw _ (List.mem_of_getElem? (i := 11) rfl))) (by decide) (backOf (W := 0) (rm_ifx l Z aT hw [] (F_hs5 (x1.toInt8.toInt32) (((x1.toUInt32 >>> ((8 : Int32) &&& 31).toUInt32).toInt32).toInt8.toInt32) (((x1.toUInt32 >>> ((16 : Int32) &&& 31).toUInt32).toInt32).toInt8.toInt32) (((x1.toUInt32 >>> ((24 : Int32) &&& 31).toUInt32).toInt32).toInt8.toInt32) (x2.toInt8.toInt32)) h112 n0 Z112) hZ (hw _ (List.mem_of_getElem? (i := 11) rfl)) (hw _ (List.mem_of_getElem? (i := 10) rfl)) (by decide) (by decide)) (g := (mkF m 169 #[.val (.int x0), .val (.int x1), .val (.int x2), .val (.int (5 : Int32)), .val (.ref b100), .val (.ref b106), .val (.int (F_hs5 (x1.toInt8.toInt32) (((x1.toUInt32 >>> ((8 : Int32) &&& 31).toUInt32).toInt32).toInt8.toInt32) (((x1.toUInt32 >>> ((16 : Int32) &&& 31).toUInt32).toInt32).toInt8.toInt32) (((x1.toUInt32 >>> ((24 : Int32) &&& 31).toUInt32).toInt32).toInt8.toInt32) (x2.toInt8.toInt32))), .unset, .unset] [(.int (F_hs5 (x1.toInt8.toInt32) (((x1.toUInt32 >>> ((8 : Int32) &&& 31).toUInt32).toInt32).toInt8.toInt32) (((x1.toUInt32 >>> ((16 : Int32) &&& 31).toUInt32).toInt32).toInt8.toInt32) (((x1.toUInt32 >>> ((24 : Int32) &&& 31).toUInt32).toInt32).toInt8.toInt32) (x2.toInt8.toInt32)))])) rfl (by rw [hml]; rfl) (argsL := [(.int (F_hs5 (x1.toInt8.toInt32) (((x1.toUInt32 >>> ((8 : Int32) &&& 31).toUInt32).toInt32).toInt8.toInt32) (((x1.toUInt32 >>> ((16 : Int32) &&& 31).toUInt32).toInt32).toInt8.toInt32) (((x1.toUInt32 >>> ((24 : Int32) &&& 31).toUInt32).toInt32).toInt8.toInt32) (x2.toInt8.toInt32)))]) (rest := []) (lenOf pd1 rfl) rfl (by show 2 * 0 + _ ≤ _; exact Nat.le_of_eq rfl) (hb hby at_169) (fun _ _ => ⟨rfl, eq113, (by decide : 2 + 0 ≤ _), (by decide : 9 + 0 ≤ _)⟩)
    dsimp only [Pt.U, Pt.locs, Pt.cells, Pt.slots] at X115 l115 y115 z115 st115 hQ115
    subst l115 y115 z115
    obtain ⟨rfl, N115q, eq115⟩ := hQ115
    have N115 := Fr.app N113 N115q
    refine own_go st115 ?_
    show own_Got p e below _ T115 (mkF m 172 #[.val (.int x0), .val (.int x1), .val (.int x2), .val (.int (5 : Int32)), .val (.ref b100), .val (.ref b106), .val (.int (F_hs5 (x1.toInt8.toInt32) (((x1.toUInt32 >>> ((8 : Int32) &&& 31).toUInt32).toInt32).toInt8.toInt32) (((x1.toUInt32 >>> ((16 : Int32) &&& 31).toUInt32).toInt32).toInt8.toInt32) (((x1.toUInt32 >>> ((24 : Int32) &&& 31).toUInt32).toInt32).toInt8.toInt32) (x2.toInt8.toInt32))), .unset, .unset] [(.int (F_ifx (F_hs5 (x1.toInt8.toInt32) (((x1.toUInt32 >>> ((8 : Int32) &&& 31).toUInt32).toInt32).toInt8.toInt32) (((x1.toUInt32 >>> ((16 : Int32) &&& 31).toUInt32).toInt32).toInt8.toInt32) (((x1.toUInt32 >>> ((24 : Int32) &&& 31).toUInt32).toInt32).toInt8.toInt32) (x2.toInt8.toInt32))))])
    refine g_iloadN X115 hx hby at_172 rfl (rfl : 172 + 1 = 173) ?_
    refine g_ixor X115 hx hby at_173 (rfl : 173 + 1 = 174) ?_
    refine g_istore X115 hx hby #[.val (.int x0), .val (.int x1), .val (.int x2), .val (.int (5 : Int32)), .val (.ref b100), .val (.ref b106), .val (.int (F_hs5 (x1.toInt8.toInt32) (((x1.toUInt32 >>> ((8 : Int32) &&& 31).toUInt32).toInt32).toInt8.toInt32) (((x1.toUInt32 >>> ((16 : Int32) &&& 31).toUInt32).toInt32).toInt8.toInt32) (((x1.toUInt32 >>> ((24 : Int32) &&& 31).toUInt32).toInt32).toInt8.toInt32) (x2.toInt8.toInt32))), .val (.int ((F_ifx (F_hs5 (x1.toInt8.toInt32) (((x1.toUInt32 >>> ((8 : Int32) &&& 31).toUInt32).toInt32).toInt8.toInt32) (((x1.toUInt32 >>> ((16 : Int32) &&& 31).toUInt32).toInt32).toInt8.toInt32) (((x1.toUInt32 >>> ((24 : Int32) &&& 31).toUInt32).toInt32).toInt8.toInt32) (x2.toInt8.toInt32))) ^^^ (5 : Int32))), .unset] at_174 rfl (rfl : 174 + 2 = 176) ?_
    refine g_iloadN X115 hx hby at_176 rfl (rfl : 176 + 1 = 177) ?_
    refine g_ifT X115 hx hby at_177 ((if0 _ _).trans (feq (by decide : ¬ ((5 : Int32) = (0 : Int32)))).2) (by decide) (pc' := 191) (by decide) ?_
    refine g_iloadN X115 hx hby at_191 rfl (rfl : 191 + 1 = 192) ?_
    refine g_iconst X115 hx hby (4 : Int32) at_192 (by decide) (rfl : 192 + 1 = 193) ?_
    refine g_icT X115 hx hby at_193 (flt (by decide : ¬ ((5 : Int32) < (4 : Int32)))).2.1 (by decide) (pc' := 220) (by decide) ?_
    refine g_iloadN X115 hx hby at_220 rfl (rfl : 220 + 1 = 221) ?_
    refine g_iconst X115 hx hby (4 : Int32) at_221 (by decide) (rfl : 221 + 1 = 222) ?_
    refine g_icT X115 hx hby at_222 (feq (by decide : ¬ ((5 : Int32) = (4 : Int32)))).2 (by decide) (pc' := 243) (by decide) ?_
    refine g_aload X115 hx hby at_243 rfl rfl (rfl : 243 + 2 = 245) ?_
    obtain ⟨_, _, ⟨T116, L116, k116, n116⟩, -, X116, ⟨Lc116, hQ116, l116, y116, z116⟩, st116⟩ := Jvm.LawKit.callS X115 hx (y := (⟨"com/example/farshard/farshard/store/Murmur3", "hash32", "([B)I"⟩ : MethodName)) hown (mvT hZ (hw _ (List.mem_of_getElem? (i := 2) rfl))) (mvT hZ (hw _ (List.mem_of_getElem? (i := 3) rfl))) (mvT hZ (hw _ (List.mem_of_getElem? (i := 4) rfl))) (mvT hZ (hw _ (List.mem_of_getElem? (i := 5) rfl))) (by decide) (backOf (W := 0) (rm_hs4 l Z aT hw [] b106 k106 (x1.toInt8.toInt32) (((x1.toUInt32 >>> ((8 : Int32) &&& 31).toUInt32).toInt32).toInt8.toInt32) (((x1.toUInt32 >>> ((16 : Int32) &&& 31).toUInt32).toInt32).toInt8.toInt32) (((x1.toUInt32 >>> ((24 : Int32) &&& 31).toUInt32).toInt32).toInt8.toInt32) h112 n0 Z112 V112') hZ (hw _ (List.mem_of_getElem? (i := 5) rfl)) (hw _ (List.mem_of_getElem? (i := 4) rfl)) (by decide) (by decide)) (g := (mkF m 245 #[.val (.int x0), .val (.int x1), .val (.int x2), .val (.int (5 : Int32)), .val (.ref b100), .val (.ref b106), .val (.int (F_hs5 (x1.toInt8.toInt32) (((x1.toUInt32 >>> ((8 : Int32) &&& 31).toUInt32).toInt32).toInt8.toInt32) (((x1.toUInt32 >>> ((16 : Int32) &&& 31).toUInt32).toInt32).toInt8.toInt32) (((x1.toUInt32 >>> ((24 : Int32) &&& 31).toUInt32).toInt32).toInt8.toInt32) (x2.toInt8.toInt32))), .val (.int ((F_ifx (F_hs5 (x1.toInt8.toInt32) (((x1.toUInt32 >>> ((8 : Int32) &&& 31).toUInt32).toInt32).toInt8.toInt32) (((x1.toUInt32 >>> ((16 : Int32) &&& 31).toUInt32).toInt32).toInt8.toInt32) (((x1.toUInt32 >>> ((24 : Int32) &&& 31).toUInt32).toInt32).toInt8.toInt32) (x2.toInt8.toInt32))) ^^^ (5 : Int32))), .unset] [(.ref b106)])) rfl (by rw [hml]; rfl) (argsL := [(.ref b106)]) (rest := []) (lenOf pd2 rfl) rfl (by show 2 * 0 + _ ≤ _; exact Nat.le_of_eq rfl) (hb hby at_245) (fun _ _ => ⟨rfl, eq115, (by decide : 2 + 0 ≤ _), (by decide : 9 + 0 ≤ _)⟩)
    dsimp only [Pt.U, Pt.locs, Pt.cells, Pt.slots] at X116 l116 y116 z116 st116 hQ116
    subst l116 y116 z116
    obtain ⟨rfl, N116q, eq116⟩ := hQ116
    have N116 := Fr.app N115 N116q
    refine own_go st116 ?_
    show own_Got p e below _ T116 (mkF m 248 #[.val (.int x0), .val (.int x1), .val (.int x2), .val (.int (5 : Int32)), .val (.ref b100), .val (.ref b106), .val (.int (F_hs5 (x1.toInt8.toInt32) (((x1.toUInt32 >>> ((8 : Int32) &&& 31).toUInt32).toInt32).toInt8.toInt32) (((x1.toUInt32 >>> ((16 : Int32) &&& 31).toUInt32).toInt32).toInt8.toInt32) (((x1.toUInt32 >>> ((24 : Int32) &&& 31).toUInt32).toInt32).toInt8.toInt32) (x2.toInt8.toInt32))), .val (.int ((F_ifx (F_hs5 (x1.toInt8.toInt32) (((x1.toUInt32 >>> ((8 : Int32) &&& 31).toUInt32).toInt32).toInt8.toInt32) (((x1.toUInt32 >>> ((16 : Int32) &&& 31).toUInt32).toInt32).toInt8.toInt32) (((x1.toUInt32 >>> ((24 : Int32) &&& 31).toUInt32).toInt32).toInt8.toInt32) (x2.toInt8.toInt32))) ^^^ (5 : Int32))), .unset] [(.int (F_hs4 (x1.toInt8.toInt32) (((x1.toUInt32 >>> ((8 : Int32) &&& 31).toUInt32).toInt32).toInt8.toInt32) (((x1.toUInt32 >>> ((16 : Int32) &&& 31).toUInt32).toInt32).toInt8.toInt32) (((x1.toUInt32 >>> ((24 : Int32) &&& 31).toUInt32).toInt32).toInt8.toInt32)))])
    obtain ⟨_, _, ⟨T117, L117, k117, n117⟩, -, X117, ⟨Lc117, hQ117, l117, y117, z117⟩, st117⟩ := Jvm.LawKit.callS X116 hx (y := (⟨"com/example/farshard/farshard/store/Murmur3Hash32PinLaw", "invFmix", "(I)I"⟩ : MethodName)) hown (mvT hZ (hw _ (List.mem_of_getElem? (i := 8) rfl))) (mvT hZ (hw _ (List.mem_of_getElem? (i := 9) rfl))) (mvT hZ (hw _ (List.mem_of_getElem? (i := 10) rfl))) (mvT hZ (hw _ (List.mem_of_getElem? (i := 11) rfl))) (by decide) (backOf (W := 0) (rm_ifx l Z aT hw [] (F_hs4 (x1.toInt8.toInt32) (((x1.toUInt32 >>> ((8 : Int32) &&& 31).toUInt32).toInt32).toInt8.toInt32) (((x1.toUInt32 >>> ((16 : Int32) &&& 31).toUInt32).toInt32).toInt8.toInt32) (((x1.toUInt32 >>> ((24 : Int32) &&& 31).toUInt32).toInt32).toInt8.toInt32)) h112 n0 Z112) hZ (hw _ (List.mem_of_getElem? (i := 11) rfl)) (hw _ (List.mem_of_getElem? (i := 10) rfl)) (by decide) (by decide)) (g := (mkF m 248 #[.val (.int x0), .val (.int x1), .val (.int x2), .val (.int (5 : Int32)), .val (.ref b100), .val (.ref b106), .val (.int (F_hs5 (x1.toInt8.toInt32) (((x1.toUInt32 >>> ((8 : Int32) &&& 31).toUInt32).toInt32).toInt8.toInt32) (((x1.toUInt32 >>> ((16 : Int32) &&& 31).toUInt32).toInt32).toInt8.toInt32) (((x1.toUInt32 >>> ((24 : Int32) &&& 31).toUInt32).toInt32).toInt8.toInt32) (x2.toInt8.toInt32))), .val (.int ((F_ifx (F_hs5 (x1.toInt8.toInt32) (((x1.toUInt32 >>> ((8 : Int32) &&& 31).toUInt32).toInt32).toInt8.toInt32) (((x1.toUInt32 >>> ((16 : Int32) &&& 31).toUInt32).toInt32).toInt8.toInt32) (((x1.toUInt32 >>> ((24 : Int32) &&& 31).toUInt32).toInt32).toInt8.toInt32) (x2.toInt8.toInt32))) ^^^ (5 : Int32))), .unset] [(.int (F_hs4 (x1.toInt8.toInt32) (((x1.toUInt32 >>> ((8 : Int32) &&& 31).toUInt32).toInt32).toInt8.toInt32) (((x1.toUInt32 >>> ((16 : Int32) &&& 31).toUInt32).toInt32).toInt8.toInt32) (((x1.toUInt32 >>> ((24 : Int32) &&& 31).toUInt32).toInt32).toInt8.toInt32)))])) rfl (by rw [hml]; rfl) (argsL := [(.int (F_hs4 (x1.toInt8.toInt32) (((x1.toUInt32 >>> ((8 : Int32) &&& 31).toUInt32).toInt32).toInt8.toInt32) (((x1.toUInt32 >>> ((16 : Int32) &&& 31).toUInt32).toInt32).toInt8.toInt32) (((x1.toUInt32 >>> ((24 : Int32) &&& 31).toUInt32).toInt32).toInt8.toInt32)))]) (rest := []) (lenOf pd1 rfl) rfl (by show 2 * 0 + _ ≤ _; exact Nat.le_of_eq rfl) (hb hby at_248) (fun _ _ => ⟨rfl, eq116, (by decide : 2 + 0 ≤ _), (by decide : 9 + 0 ≤ _)⟩)
    dsimp only [Pt.U, Pt.locs, Pt.cells, Pt.slots] at X117 l117 y117 z117 st117 hQ117
    subst l117 y117 z117
    obtain ⟨rfl, N117q, eq117⟩ := hQ117
    have N117 := Fr.app N116 N117q
    refine own_go st117 ?_
    show own_Got p e below _ T117 (mkF m 251 #[.val (.int x0), .val (.int x1), .val (.int x2), .val (.int (5 : Int32)), .val (.ref b100), .val (.ref b106), .val (.int (F_hs5 (x1.toInt8.toInt32) (((x1.toUInt32 >>> ((8 : Int32) &&& 31).toUInt32).toInt32).toInt8.toInt32) (((x1.toUInt32 >>> ((16 : Int32) &&& 31).toUInt32).toInt32).toInt8.toInt32) (((x1.toUInt32 >>> ((24 : Int32) &&& 31).toUInt32).toInt32).toInt8.toInt32) (x2.toInt8.toInt32))), .val (.int ((F_ifx (F_hs5 (x1.toInt8.toInt32) (((x1.toUInt32 >>> ((8 : Int32) &&& 31).toUInt32).toInt32).toInt8.toInt32) (((x1.toUInt32 >>> ((16 : Int32) &&& 31).toUInt32).toInt32).toInt8.toInt32) (((x1.toUInt32 >>> ((24 : Int32) &&& 31).toUInt32).toInt32).toInt8.toInt32) (x2.toInt8.toInt32))) ^^^ (5 : Int32))), .unset] [(.int (F_ifx (F_hs4 (x1.toInt8.toInt32) (((x1.toUInt32 >>> ((8 : Int32) &&& 31).toUInt32).toInt32).toInt8.toInt32) (((x1.toUInt32 >>> ((16 : Int32) &&& 31).toUInt32).toInt32).toInt8.toInt32) (((x1.toUInt32 >>> ((24 : Int32) &&& 31).toUInt32).toInt32).toInt8.toInt32))))])
    refine g_iconst X117 hx hby (4 : Int32) at_251 (by decide) (rfl : 251 + 1 = 252) ?_
    refine g_ixor X117 hx hby at_252 (rfl : 252 + 1 = 253) ?_
    refine g_istore X117 hx hby #[.val (.int x0), .val (.int x1), .val (.int x2), .val (.int (5 : Int32)), .val (.ref b100), .val (.ref b106), .val (.int (F_hs5 (x1.toInt8.toInt32) (((x1.toUInt32 >>> ((8 : Int32) &&& 31).toUInt32).toInt32).toInt8.toInt32) (((x1.toUInt32 >>> ((16 : Int32) &&& 31).toUInt32).toInt32).toInt8.toInt32) (((x1.toUInt32 >>> ((24 : Int32) &&& 31).toUInt32).toInt32).toInt8.toInt32) (x2.toInt8.toInt32))), .val (.int ((F_ifx (F_hs5 (x1.toInt8.toInt32) (((x1.toUInt32 >>> ((8 : Int32) &&& 31).toUInt32).toInt32).toInt8.toInt32) (((x1.toUInt32 >>> ((16 : Int32) &&& 31).toUInt32).toInt32).toInt8.toInt32) (((x1.toUInt32 >>> ((24 : Int32) &&& 31).toUInt32).toInt32).toInt8.toInt32) (x2.toInt8.toInt32))) ^^^ (5 : Int32))), .val (.int ((F_ifx (F_hs4 (x1.toInt8.toInt32) (((x1.toUInt32 >>> ((8 : Int32) &&& 31).toUInt32).toInt32).toInt8.toInt32) (((x1.toUInt32 >>> ((16 : Int32) &&& 31).toUInt32).toInt32).toInt8.toInt32) (((x1.toUInt32 >>> ((24 : Int32) &&& 31).toUInt32).toInt32).toInt8.toInt32))) ^^^ (4 : Int32)))] at_253 rfl (rfl : 253 + 2 = 255) ?_
    refine g_iloadN X117 hx hby at_255 rfl (rfl : 255 + 1 = 256) ?_
    refine g_bipush X117 hx hby (8 : Int32) at_256 (by decide) (rfl : 256 + 2 = 258) ?_
    refine g_icF X117 hx hby at_258 (tlt (by decide : (5 : Int32) < (8 : Int32))).2.1 (rfl : 258 + 3 = 261) ?_
    refine g_iload X117 hx hby at_261 rfl (rfl : 261 + 2 = 263) ?_
    refine g_iload X117 hx hby at_263 rfl (rfl : 263 + 2 = 265) ?_
    refine g_ixor X117 hx hby at_265 (rfl : 265 + 1 = 266) ?_
    obtain ⟨_, _, ⟨T118, L118, k118, n118⟩, -, X118, ⟨Lc118, hQ118, l118, y118, z118⟩, st118⟩ := Jvm.LawKit.callS X117 hx (y := (⟨"com/example/farshard/farshard/store/Murmur3Hash32PinLaw", "invMix", "(I)I"⟩ : MethodName)) hown (mvT hZ (hw _ (List.mem_of_getElem? (i := 26) rfl))) (mvT hZ (hw _ (List.mem_of_getElem? (i := 27) rfl))) (mvT hZ (hw _ (List.mem_of_getElem? (i := 10) rfl))) (mvT hZ (hw _ (List.mem_of_getElem? (i := 28) rfl))) (by decide) (backOf (W := 0) (rm_imx l Z aT hw [] (((F_ifx (F_hs5 (x1.toInt8.toInt32) (((x1.toUInt32 >>> ((8 : Int32) &&& 31).toUInt32).toInt32).toInt8.toInt32) (((x1.toUInt32 >>> ((16 : Int32) &&& 31).toUInt32).toInt32).toInt8.toInt32) (((x1.toUInt32 >>> ((24 : Int32) &&& 31).toUInt32).toInt32).toInt8.toInt32) (x2.toInt8.toInt32))) ^^^ (5 : Int32)) ^^^ ((F_ifx (F_hs4 (x1.toInt8.toInt32) (((x1.toUInt32 >>> ((8 : Int32) &&& 31).toUInt32).toInt32).toInt8.toInt32) (((x1.toUInt32 >>> ((16 : Int32) &&& 31).toUInt32).toInt32).toInt8.toInt32) (((x1.toUInt32 >>> ((24 : Int32) &&& 31).toUInt32).toInt32).toInt8.toInt32))) ^^^ (4 : Int32))) h112 n0 Z112) hZ (hw _ (List.mem_of_getElem? (i := 28) rfl)) (hw _ (List.mem_of_getElem? (i := 10) rfl)) (by decide) (by decide)) (g := (mkF m 266 #[.val (.int x0), .val (.int x1), .val (.int x2), .val (.int (5 : Int32)), .val (.ref b100), .val (.ref b106), .val (.int (F_hs5 (x1.toInt8.toInt32) (((x1.toUInt32 >>> ((8 : Int32) &&& 31).toUInt32).toInt32).toInt8.toInt32) (((x1.toUInt32 >>> ((16 : Int32) &&& 31).toUInt32).toInt32).toInt8.toInt32) (((x1.toUInt32 >>> ((24 : Int32) &&& 31).toUInt32).toInt32).toInt8.toInt32) (x2.toInt8.toInt32))), .val (.int ((F_ifx (F_hs5 (x1.toInt8.toInt32) (((x1.toUInt32 >>> ((8 : Int32) &&& 31).toUInt32).toInt32).toInt8.toInt32) (((x1.toUInt32 >>> ((16 : Int32) &&& 31).toUInt32).toInt32).toInt8.toInt32) (((x1.toUInt32 >>> ((24 : Int32) &&& 31).toUInt32).toInt32).toInt8.toInt32) (x2.toInt8.toInt32))) ^^^ (5 : Int32))), .val (.int ((F_ifx (F_hs4 (x1.toInt8.toInt32) (((x1.toUInt32 >>> ((8 : Int32) &&& 31).toUInt32).toInt32).toInt8.toInt32) (((x1.toUInt32 >>> ((16 : Int32) &&& 31).toUInt32).toInt32).toInt8.toInt32) (((x1.toUInt32 >>> ((24 : Int32) &&& 31).toUInt32).toInt32).toInt8.toInt32))) ^^^ (4 : Int32)))] [(.int (((F_ifx (F_hs5 (x1.toInt8.toInt32) (((x1.toUInt32 >>> ((8 : Int32) &&& 31).toUInt32).toInt32).toInt8.toInt32) (((x1.toUInt32 >>> ((16 : Int32) &&& 31).toUInt32).toInt32).toInt8.toInt32) (((x1.toUInt32 >>> ((24 : Int32) &&& 31).toUInt32).toInt32).toInt8.toInt32) (x2.toInt8.toInt32))) ^^^ (5 : Int32)) ^^^ ((F_ifx (F_hs4 (x1.toInt8.toInt32) (((x1.toUInt32 >>> ((8 : Int32) &&& 31).toUInt32).toInt32).toInt8.toInt32) (((x1.toUInt32 >>> ((16 : Int32) &&& 31).toUInt32).toInt32).toInt8.toInt32) (((x1.toUInt32 >>> ((24 : Int32) &&& 31).toUInt32).toInt32).toInt8.toInt32))) ^^^ (4 : Int32))))])) rfl (by rw [hml]; rfl) (argsL := [(.int (((F_ifx (F_hs5 (x1.toInt8.toInt32) (((x1.toUInt32 >>> ((8 : Int32) &&& 31).toUInt32).toInt32).toInt8.toInt32) (((x1.toUInt32 >>> ((16 : Int32) &&& 31).toUInt32).toInt32).toInt8.toInt32) (((x1.toUInt32 >>> ((24 : Int32) &&& 31).toUInt32).toInt32).toInt8.toInt32) (x2.toInt8.toInt32))) ^^^ (5 : Int32)) ^^^ ((F_ifx (F_hs4 (x1.toInt8.toInt32) (((x1.toUInt32 >>> ((8 : Int32) &&& 31).toUInt32).toInt32).toInt8.toInt32) (((x1.toUInt32 >>> ((16 : Int32) &&& 31).toUInt32).toInt32).toInt8.toInt32) (((x1.toUInt32 >>> ((24 : Int32) &&& 31).toUInt32).toInt32).toInt8.toInt32))) ^^^ (4 : Int32))))]) (rest := []) (lenOf pd1 rfl) rfl (by show 2 * 0 + _ ≤ _; exact Nat.le_of_eq rfl) (hb hby at_266) (fun _ _ => ⟨rfl, eq117, (by decide : 2 + 0 ≤ _), (by decide : 9 + 0 ≤ _)⟩)
    dsimp only [Pt.U, Pt.locs, Pt.cells, Pt.slots] at X118 l118 y118 z118 st118 hQ118
    subst l118 y118 z118
    obtain ⟨rfl, N118q, eq118⟩ := hQ118
    have N118 := Fr.app N117 N118q
    refine own_go st118 ?_
    show own_Got p e below _ T118 (mkF m 269 #[.val (.int x0), .val (.int x1), .val (.int x2), .val (.int (5 : Int32)), .val (.ref b100), .val (.ref b106), .val (.int (F_hs5 (x1.toInt8.toInt32) (((x1.toUInt32 >>> ((8 : Int32) &&& 31).toUInt32).toInt32).toInt8.toInt32) (((x1.toUInt32 >>> ((16 : Int32) &&& 31).toUInt32).toInt32).toInt8.toInt32) (((x1.toUInt32 >>> ((24 : Int32) &&& 31).toUInt32).toInt32).toInt8.toInt32) (x2.toInt8.toInt32))), .val (.int ((F_ifx (F_hs5 (x1.toInt8.toInt32) (((x1.toUInt32 >>> ((8 : Int32) &&& 31).toUInt32).toInt32).toInt8.toInt32) (((x1.toUInt32 >>> ((16 : Int32) &&& 31).toUInt32).toInt32).toInt8.toInt32) (((x1.toUInt32 >>> ((24 : Int32) &&& 31).toUInt32).toInt32).toInt8.toInt32) (x2.toInt8.toInt32))) ^^^ (5 : Int32))), .val (.int ((F_ifx (F_hs4 (x1.toInt8.toInt32) (((x1.toUInt32 >>> ((8 : Int32) &&& 31).toUInt32).toInt32).toInt8.toInt32) (((x1.toUInt32 >>> ((16 : Int32) &&& 31).toUInt32).toInt32).toInt8.toInt32) (((x1.toUInt32 >>> ((24 : Int32) &&& 31).toUInt32).toInt32).toInt8.toInt32))) ^^^ (4 : Int32)))] [(.int (F_imx (((F_ifx (F_hs5 (x1.toInt8.toInt32) (((x1.toUInt32 >>> ((8 : Int32) &&& 31).toUInt32).toInt32).toInt8.toInt32) (((x1.toUInt32 >>> ((16 : Int32) &&& 31).toUInt32).toInt32).toInt8.toInt32) (((x1.toUInt32 >>> ((24 : Int32) &&& 31).toUInt32).toInt32).toInt8.toInt32) (x2.toInt8.toInt32))) ^^^ (5 : Int32)) ^^^ ((F_ifx (F_hs4 (x1.toInt8.toInt32) (((x1.toUInt32 >>> ((8 : Int32) &&& 31).toUInt32).toInt32).toInt8.toInt32) (((x1.toUInt32 >>> ((16 : Int32) &&& 31).toUInt32).toInt32).toInt8.toInt32) (((x1.toUInt32 >>> ((24 : Int32) &&& 31).toUInt32).toInt32).toInt8.toInt32))) ^^^ (4 : Int32)))))])
    refine g_iloadN X118 hx hby at_269 rfl (rfl : 269 + 1 = 270) ?_
    refine g_iconst X118 hx hby (1 : Int32) at_270 (by decide) (rfl : 270 + 1 = 271) ?_
    refine g_bipush X118 hx hby (8 : Int32) at_271 (by decide) (rfl : 271 + 2 = 273) ?_
    refine g_iloadN X118 hx hby at_273 rfl (rfl : 273 + 1 = 274) ?_
    refine g_iconst X118 hx hby (4 : Int32) at_274 (by decide) (rfl : 274 + 1 = 275) ?_
    refine g_isub X118 hx hby at_275 (rfl : 275 + 1 = 276) ?_
    rw [(by decide : ((5 : Int32) - (4 : Int32)) = (1 : Int32))]
    refine g_imul X118 hx hby at_276 (rfl : 276 + 1 = 277) ?_
    rw [(by decide : ((8 : Int32) * (1 : Int32)) = (8 : Int32))]
    refine g_ishl X118 hx hby at_277 (rfl : 277 + 1 = 278) ?_
    rw [(by decide : ((1 : Int32) <<< ((8 : Int32) &&& 31)) = (256 : Int32))]
    refine g_iconst X118 hx hby (1 : Int32) at_278 (by decide) (rfl : 278 + 1 = 279) ?_
    refine g_isub X118 hx hby at_279 (rfl : 279 + 1 = 280) ?_
    rw [(by decide : ((256 : Int32) - (1 : Int32)) = (255 : Int32))]
    refine g_iand X118 hx hby at_280 (rfl : 280 + 1 = 281) ?_
    have c119 : (F_imx (((F_ifx (F_hs5 (x1.toInt8.toInt32) (((x1.toUInt32 >>> ((8 : Int32) &&& 31).toUInt32).toInt32).toInt8.toInt32) (((x1.toUInt32 >>> ((16 : Int32) &&& 31).toUInt32).toInt32).toInt8.toInt32) (((x1.toUInt32 >>> ((24 : Int32) &&& 31).toUInt32).toInt32).toInt8.toInt32) (x2.toInt8.toInt32))) ^^^ (5 : Int32)) ^^^ ((F_ifx (F_hs4 (x1.toInt8.toInt32) (((x1.toUInt32 >>> ((8 : Int32) &&& 31).toUInt32).toInt32).toInt8.toInt32) (((x1.toUInt32 >>> ((16 : Int32) &&& 31).toUInt32).toInt32).toInt8.toInt32) (((x1.toUInt32 >>> ((24 : Int32) &&& 31).toUInt32).toInt32).toInt8.toInt32))) ^^^ (4 : Int32)))) = (x2 &&& (255 : Int32)) := own_h5 x1 x2
    refine g_icF X118 hx hby at_281 (teq c119).2 (rfl : 281 + 3 = 284) ?_
    refine g_iconst X118 hx hby (1 : Int32) at_284 (by decide) (rfl : 284 + 1 = 285) ?_
    refine g_goto X118 hx hby at_285 (by decide) (pc' := 289) (by decide) ?_
    refine own_retN X118 hx hby hlk (t := .boolean) hrt (by simp) at_289 (by decide) (by decide) ?_
    show Q_law Z x0 x1 x2 h0 n0 _ T118.heap _
    exact ⟨rfl, N118⟩
  · rw [hk25]
    refine g_iloadN X0 hx hby at_8 rfl (rfl : 8 + 1 = 9) ?_
    obtain ⟨T120, h120, k120, X120, e120, E120, A120, B120, st120⟩ := newPE X0 hx hZ (hw _ (List.mem_of_getElem? (i := 1) rfl)) e0 (g := (mkF m 9 #[.val (.int x0), .val (.int x1), .val (.int x2), .val (.int (6 : Int32)), .unset, .unset, .unset, .unset, .unset] [(.int (6 : Int32))])) rfl (hb hby at_9) rfl (by decide) (cap := 6) (by decide) (by decide) (by decide) (by decide) (ad := "[B") (by decide +kernel)
    obtain ⟨b120, g120⟩ : ∃ z, z = h0.size := ⟨_, rfl⟩
    rw [← g120] at A120 B120 st120
    have Z120 : n0 ≤ h120.size := Nat.le_trans Z0 E120.1
    have ge120 : n0 ≤ b120 := Nat.le_trans Z0 (Nat.le_of_eq g120.symm)
    have V120 : Arv Z h120 b120 k120 .byte (6 : Int32) [(.int (0 : Int32)), (.int (0 : Int32)), (.int (0 : Int32)), (.int (0 : Int32)), (.int (0 : Int32)), (.int (0 : Int32))] (.int (0 : Int32)) := (Arv.new A120 (by decide)).pad (pad_rep [] _ 6)
    refine own_go st120 ?_
    show own_Got p e below _ T120 (mkF m 11 #[.val (.int x0), .val (.int x1), .val (.int x2), .val (.int (6 : Int32)), .unset, .unset, .unset, .unset, .unset] [(.ref b120)])
    refine g_astore X120 hx hby #[.val (.int x0), .val (.int x1), .val (.int x2), .val (.int (6 : Int32)), .val (.ref b120), .unset, .unset, .unset, .unset] at_11 rfl rfl (rfl : 11 + 2 = 13) ?_
    refine g_iloadN X120 hx hby at_13 rfl (rfl : 13 + 1 = 14) ?_
    refine g_ifF X120 hx hby at_14 ((if0 _ _).trans (tlt (by decide : (0 : Int32) < (6 : Int32))).2.2.2) (rfl : 14 + 3 = 17) ?_
    refine g_aload X120 hx hby at_17 rfl rfl (rfl : 17 + 2 = 19) ?_
    refine g_iconst X120 hx hby (0 : Int32) at_19 (by decide) (rfl : 19 + 1 = 20) ?_
    refine g_iloadN X120 hx hby at_20 rfl (rfl : 20 + 1 = 21) ?_
    refine g_i2b X120 hx hby at_21 (rfl : 21 + 1 = 22) ?_
    obtain ⟨T121, h121, X121, e121, W121, V121, st121⟩ := a_bastore X120 hx hby hZ e120 (ls := #[.val (.int x0), .val (.int x1), .val (.int x2), .val (.int (6 : Int32)), .val (.ref b120), .unset, .unset, .unset, .unset]) (st := []) (j := (0 : Int32)) (x1.toInt8.toInt32) 0 V120 ⟨by decide, by decide⟩ (by decide) (Nat.le_of_ble_eq_true rfl) at_22
    have Z121 : n0 ≤ h121.size := Nat.le_trans Z120 (Keep.of_wr W121).1
    have N121 := Fr.snoc X121 N0 ge120
    have V121' : Arv Z h121 b120 k120 .byte (6 : Int32) [(.int (x1.toInt8.toInt32)), (.int (0 : Int32)), (.int (0 : Int32)), (.int (0 : Int32)), (.int (0 : Int32)), (.int (0 : Int32))] (.int (0 : Int32)) := by have q := V121; rw [own_nb] at q; exact q
    refine own_go st121 ?_
    show own_Got p e below _ T121 (mkF m 23 #[.val (.int x0), .val (.int x1), .val (.int x2), .val (.int (6 : Int32)), .val (.ref b120), .unset, .unset, .unset, .unset] [])
    refine g_iloadN X121 hx hby at_23 rfl (rfl : 23 + 1 = 24) ?_
    refine g_iconst X121 hx hby (1 : Int32) at_24 (by decide) (rfl : 24 + 1 = 25) ?_
    refine g_icF X121 hx hby at_25 (tlt (by decide : (1 : Int32) < (6 : Int32))).2.2.2 (rfl : 25 + 3 = 28) ?_
    refine g_aload X121 hx hby at_28 rfl rfl (rfl : 28 + 2 = 30) ?_
    refine g_iconst X121 hx hby (1 : Int32) at_30 (by decide) (rfl : 30 + 1 = 31) ?_
    refine g_iloadN X121 hx hby at_31 rfl (rfl : 31 + 1 = 32) ?_
    refine g_bipush X121 hx hby (8 : Int32) at_32 (by decide) (rfl : 32 + 2 = 34) ?_
    refine g_iushr X121 hx hby at_34 (rfl : 34 + 1 = 35) ?_
    refine g_i2b X121 hx hby at_35 (rfl : 35 + 1 = 36) ?_
    obtain ⟨T122, h122, X122, e122, W122, V122, st122⟩ := a_bastore X121 hx hby hZ e121 (ls := #[.val (.int x0), .val (.int x1), .val (.int x2), .val (.int (6 : Int32)), .val (.ref b120), .unset, .unset, .unset, .unset]) (st := []) (j := (1 : Int32)) (((x1.toUInt32 >>> ((8 : Int32) &&& 31).toUInt32).toInt32).toInt8.toInt32) 1 V121' ⟨by decide, by decide⟩ (by decide) (Nat.le_of_ble_eq_true rfl) at_36
    have Z122 : n0 ≤ h122.size := Nat.le_trans Z121 (Keep.of_wr W122).1
    have N122 := Fr.snoc X122 N121 ge120
    have V122' : Arv Z h122 b120 k120 .byte (6 : Int32) [(.int (x1.toInt8.toInt32)), (.int (((x1.toUInt32 >>> ((8 : Int32) &&& 31).toUInt32).toInt32).toInt8.toInt32)), (.int (0 : Int32)), (.int (0 : Int32)), (.int (0 : Int32)), (.int (0 : Int32))] (.int (0 : Int32)) := by have q := V122; rw [own_nb] at q; exact q
    refine own_go st122 ?_
    show own_Got p e below _ T122 (mkF m 37 #[.val (.int x0), .val (.int x1), .val (.int x2), .val (.int (6 : Int32)), .val (.ref b120), .unset, .unset, .unset, .unset] [])
    refine g_iloadN X122 hx hby at_37 rfl (rfl : 37 + 1 = 38) ?_
    refine g_iconst X122 hx hby (2 : Int32) at_38 (by decide) (rfl : 38 + 1 = 39) ?_
    refine g_icF X122 hx hby at_39 (tlt (by decide : (2 : Int32) < (6 : Int32))).2.2.2 (rfl : 39 + 3 = 42) ?_
    refine g_aload X122 hx hby at_42 rfl rfl (rfl : 42 + 2 = 44) ?_
    refine g_iconst X122 hx hby (2 : Int32) at_44 (by decide) (rfl : 44 + 1 = 45) ?_
    refine g_iloadN X122 hx hby at_45 rfl (rfl : 45 + 1 = 46) ?_
    refine g_bipush X122 hx hby (16 : Int32) at_46 (by decide) (rfl : 46 + 2 = 48) ?_
    refine g_iushr X122 hx hby at_48 (rfl : 48 + 1 = 49) ?_
    refine g_i2b X122 hx hby at_49 (rfl : 49 + 1 = 50) ?_
    obtain ⟨T123, h123, X123, e123, W123, V123, st123⟩ := a_bastore X122 hx hby hZ e122 (ls := #[.val (.int x0), .val (.int x1), .val (.int x2), .val (.int (6 : Int32)), .val (.ref b120), .unset, .unset, .unset, .unset]) (st := []) (j := (2 : Int32)) (((x1.toUInt32 >>> ((16 : Int32) &&& 31).toUInt32).toInt32).toInt8.toInt32) 2 V122' ⟨by decide, by decide⟩ (by decide) (Nat.le_of_ble_eq_true rfl) at_50
    have Z123 : n0 ≤ h123.size := Nat.le_trans Z122 (Keep.of_wr W123).1
    have N123 := Fr.snoc X123 N122 ge120
    have V123' : Arv Z h123 b120 k120 .byte (6 : Int32) [(.int (x1.toInt8.toInt32)), (.int (((x1.toUInt32 >>> ((8 : Int32) &&& 31).toUInt32).toInt32).toInt8.toInt32)), (.int (((x1.toUInt32 >>> ((16 : Int32) &&& 31).toUInt32).toInt32).toInt8.toInt32)), (.int (0 : Int32)), (.int (0 : Int32)), (.int (0 : Int32))] (.int (0 : Int32)) := by have q := V123; rw [own_nb] at q; exact q
    refine own_go st123 ?_
    show own_Got p e below _ T123 (mkF m 51 #[.val (.int x0), .val (.int x1), .val (.int x2), .val (.int (6 : Int32)), .val (.ref b120), .unset, .unset, .unset, .unset] [])
    refine g_iloadN X123 hx hby at_51 rfl (rfl : 51 + 1 = 52) ?_
    refine g_iconst X123 hx hby (3 : Int32) at_52 (by decide) (rfl : 52 + 1 = 53) ?_
    refine g_icF X123 hx hby at_53 (tlt (by decide : (3 : Int32) < (6 : Int32))).2.2.2 (rfl : 53 + 3 = 56) ?_
    refine g_aload X123 hx hby at_56 rfl rfl (rfl : 56 + 2 = 58) ?_
    refine g_iconst X123 hx hby (3 : Int32) at_58 (by decide) (rfl : 58 + 1 = 59) ?_
    refine g_iloadN X123 hx hby at_59 rfl (rfl : 59 + 1 = 60) ?_
    refine g_bipush X123 hx hby (24 : Int32) at_60 (by decide) (rfl : 60 + 2 = 62) ?_
    refine g_iushr X123 hx hby at_62 (rfl : 62 + 1 = 63) ?_
    refine g_i2b X123 hx hby at_63 (rfl : 63 + 1 = 64) ?_
    obtain ⟨T124, h124, X124, e124, W124, V124, st124⟩ := a_bastore X123 hx hby hZ e123 (ls := #[.val (.int x0), .val (.int x1), .val (.int x2), .val (.int (6 : Int32)), .val (.ref b120), .unset, .unset, .unset, .unset]) (st := []) (j := (3 : Int32)) (((x1.toUInt32 >>> ((24 : Int32) &&& 31).toUInt32).toInt32).toInt8.toInt32) 3 V123' ⟨by decide, by decide⟩ (by decide) (Nat.le_of_ble_eq_true rfl) at_64
    have Z124 : n0 ≤ h124.size := Nat.le_trans Z123 (Keep.of_wr W124).1
    have N124 := Fr.snoc X124 N123 ge120
    have V124' : Arv Z h124 b120 k120 .byte (6 : Int32) [(.int (x1.toInt8.toInt32)), (.int (((x1.toUInt32 >>> ((8 : Int32) &&& 31).toUInt32).toInt32).toInt8.toInt32)), (.int (((x1.toUInt32 >>> ((16 : Int32) &&& 31).toUInt32).toInt32).toInt8.toInt32)), (.int (((x1.toUInt32 >>> ((24 : Int32) &&& 31).toUInt32).toInt32).toInt8.toInt32)), (.int (0 : Int32)), (.int (0 : Int32))] (.int (0 : Int32)) := by have q := V124; rw [own_nb] at q; exact q
    refine own_go st124 ?_
    show own_Got p e below _ T124 (mkF m 65 #[.val (.int x0), .val (.int x1), .val (.int x2), .val (.int (6 : Int32)), .val (.ref b120), .unset, .unset, .unset, .unset] [])
    refine g_iloadN X124 hx hby at_65 rfl (rfl : 65 + 1 = 66) ?_
    refine g_iconst X124 hx hby (4 : Int32) at_66 (by decide) (rfl : 66 + 1 = 67) ?_
    refine g_icF X124 hx hby at_67 (tlt (by decide : (4 : Int32) < (6 : Int32))).2.2.2 (rfl : 67 + 3 = 70) ?_
    refine g_aload X124 hx hby at_70 rfl rfl (rfl : 70 + 2 = 72) ?_
    refine g_iconst X124 hx hby (4 : Int32) at_72 (by decide) (rfl : 72 + 1 = 73) ?_
    refine g_iloadN X124 hx hby at_73 rfl (rfl : 73 + 1 = 74) ?_
    refine g_i2b X124 hx hby at_74 (rfl : 74 + 1 = 75) ?_
    obtain ⟨T125, h125, X125, e125, W125, V125, st125⟩ := a_bastore X124 hx hby hZ e124 (ls := #[.val (.int x0), .val (.int x1), .val (.int x2), .val (.int (6 : Int32)), .val (.ref b120), .unset, .unset, .unset, .unset]) (st := []) (j := (4 : Int32)) (x2.toInt8.toInt32) 4 V124' ⟨by decide, by decide⟩ (by decide) (Nat.le_of_ble_eq_true rfl) at_75
    have Z125 : n0 ≤ h125.size := Nat.le_trans Z124 (Keep.of_wr W125).1
    have N125 := Fr.snoc X125 N124 ge120
    have V125' : Arv Z h125 b120 k120 .byte (6 : Int32) [(.int (x1.toInt8.toInt32)), (.int (((x1.toUInt32 >>> ((8 : Int32) &&& 31).toUInt32).toInt32).toInt8.toInt32)), (.int (((x1.toUInt32 >>> ((16 : Int32) &&& 31).toUInt32).toInt32).toInt8.toInt32)), (.int (((x1.toUInt32 >>> ((24 : Int32) &&& 31).toUInt32).toInt32).toInt8.toInt32)), (.int (x2.toInt8.toInt32)), (.int (0 : Int32))] (.int (0 : Int32)) := by have q := V125; rw [own_nb] at q; exact q
    refine own_go st125 ?_
    show own_Got p e below _ T125 (mkF m 76 #[.val (.int x0), .val (.int x1), .val (.int x2), .val (.int (6 : Int32)), .val (.ref b120), .unset, .unset, .unset, .unset] [])
    refine g_iloadN X125 hx hby at_76 rfl (rfl : 76 + 1 = 77) ?_
    refine g_iconst X125 hx hby (5 : Int32) at_77 (by decide) (rfl : 77 + 1 = 78) ?_
    refine g_icF X125 hx hby at_78 (tlt (by decide : (5 : Int32) < (6 : Int32))).2.2.2 (rfl : 78 + 3 = 81) ?_
    refine g_aload X125 hx hby at_81 rfl rfl (rfl : 81 + 2 = 83) ?_
    refine g_iconst X125 hx hby (5 : Int32) at_83 (by decide) (rfl : 83 + 1 = 84) ?_
    refine g_iloadN X125 hx hby at_84 rfl (rfl : 84 + 1 = 85) ?_
    refine g_bipush X125 hx hby (8 : Int32) at_85 (by decide) (rfl : 85 + 2 = 87) ?_
    refine g_iushr X125 hx hby at_87 (rfl : 87 + 1 = 88) ?_
    refine g_i2b X125 hx hby at_88 (rfl : 88 + 1 = 89) ?_
    obtain ⟨T126, h126, X126, e126, W126, V126, st126⟩ := a_bastore X125 hx hby hZ e125 (ls := #[.val (.int x0), .val (.int x1), .val (.int x2), .val (.int (6 : Int32)), .val (.ref b120), .unset, .unset, .unset, .unset]) (st := []) (j := (5 : Int32)) (((x2.toUInt32 >>> ((8 : Int32) &&& 31).toUInt32).toInt32).toInt8.toInt32) 5 V125' ⟨by decide, by decide⟩ (by decide) (Nat.le_of_ble_eq_true rfl) at_89
    have Z126 : n0 ≤ h126.size := Nat.le_trans Z125 (Keep.of_wr W126).1
    have N126 := Fr.snoc X126 N125 ge120
    have V126' : Arv Z h126 b120 k120 .byte (6 : Int32) [(.int (x1.toInt8.toInt32)), (.int (((x1.toUInt32 >>> ((8 : Int32) &&& 31).toUInt32).toInt32).toInt8.toInt32)), (.int (((x1.toUInt32 >>> ((16 : Int32) &&& 31).toUInt32).toInt32).toInt8.toInt32)), (.int (((x1.toUInt32 >>> ((24 : Int32) &&& 31).toUInt32).toInt32).toInt8.toInt32)), (.int (x2.toInt8.toInt32)), (.int (((x2.toUInt32 >>> ((8 : Int32) &&& 31).toUInt32).toInt32).toInt8.toInt32))] (.int (0 : Int32)) := by have q := V126; rw [own_nb] at q; exact q
    refine own_go st126 ?_
    show own_Got p e below _ T126 (mkF m 90 #[.val (.int x0), .val (.int x1), .val (.int x2), .val (.int (6 : Int32)), .val (.ref b120), .unset, .unset, .unset, .unset] [])
    refine g_iloadN X126 hx hby at_90 rfl (rfl : 90 + 1 = 91) ?_
    refine g_bipush X126 hx hby (6 : Int32) at_91 (by decide) (rfl : 91 + 2 = 93) ?_
    refine g_icT X126 hx hby at_93 (flt (by decide : ¬ ((6 : Int32) < (6 : Int32)))).2.2.2 (by decide) (pc' := 106) (by decide) ?_
    refine g_iloadN X126 hx hby at_106 rfl (rfl : 106 + 1 = 107) ?_
    refine g_bipush X126 hx hby (7 : Int32) at_107 (by decide) (rfl : 107 + 2 = 109) ?_
    refine g_icT X126 hx hby at_109 (flt (by decide : ¬ ((7 : Int32) < (6 : Int32)))).2.2.2 (by decide) (pc' := 122) (by decide) ?_
    refine g_iconst X126 hx hby (4 : Int32) at_122 (by decide) (rfl : 122 + 1 = 123) ?_
    have f128 : Exa Z h126 b120 "[B" := (Exa.wr W126 (Exa.wr W125 (Exa.wr W124 (Exa.wr W123 (Exa.wr W122 (Exa.wr W121 B120))))))
    obtain ⟨T127, h127, k127, X127, e127, E127, A127, B127, st127⟩ := newPE X126 hx hZ (hw _ (List.mem_of_getElem? (i := 1) rfl)) e126 (g := (mkF m 123 #[.val (.int x0), .val (.int x1), .val (.int x2), .val (.int (6 : Int32)), .val (.ref b120), .unset, .unset, .unset, .unset] [(.int (4 : Int32))])) rfl (hb hby at_123) rfl (by decide) (cap := 4) (by decide) (by decide) (by decide) (by decide) (ad := "[B") (by decide +kernel)
    obtain ⟨b127, g127⟩ : ∃ z, z = h126.size := ⟨_, rfl⟩
    rw [← g127] at A127 B127 st127
    have ne129 : b120 ≠ b127 := Nat.ne_of_lt (Nat.lt_of_lt_of_le (f128).lt (Nat.le_of_eq g127.symm))
    have Z127 : n0 ≤ h127.size := Nat.le_trans Z126 E127.1
    have ge127 : n0 ≤ b127 := Nat.le_trans Z126 (Nat.le_of_eq g127.symm)
    have V127 : Arv Z h127 b127 k127 .byte (4 : Int32) [(.int (0 : Int32)), (.int (0 : Int32)), (.int (0 : Int32)), (.int (0 : Int32))] (.int (0 : Int32)) := (Arv.new A127 (by decide)).pad (pad_rep [] _ 4)
    refine own_go st127 ?_
    show own_Got p e below _ T127 (mkF m 125 #[.val (.int x0), .val (.int x1), .val (.int x2), .val (.int (6 : Int32)), .val (.ref b120), .unset, .unset, .unset, .unset] [(.ref b127)])
    refine g_astore X127 hx hby #[.val (.int x0), .val (.int x1), .val (.int x2), .val (.int (6 : Int32)), .val (.ref b120), .val (.ref b127), .unset, .unset, .unset] at_125 rfl rfl (rfl : 125 + 2 = 127) ?_
    refine g_aload X127 hx hby at_127 rfl rfl (rfl : 127 + 2 = 129) ?_
    refine g_iconst X127 hx hby (0 : Int32) at_129 (by decide) (rfl : 129 + 1 = 130) ?_
    refine g_iloadN X127 hx hby at_130 rfl (rfl : 130 + 1 = 131) ?_
    refine g_i2b X127 hx hby at_131 (rfl : 131 + 1 = 132) ?_
    obtain ⟨T130, h130, X130, e130, W130, V130, st130⟩ := a_bastore X127 hx hby hZ e127 (ls := #[.val (.int x0), .val (.int x1), .val (.int x2), .val (.int (6 : Int32)), .val (.ref b120), .val (.ref b127), .unset, .unset, .unset]) (st := []) (j := (0 : Int32)) (x1.toInt8.toInt32) 0 V127 ⟨by decide, by decide⟩ (by decide) (Nat.le_of_ble_eq_true rfl) at_132
    have Z130 : n0 ≤ h130.size := Nat.le_trans Z127 (Keep.of_wr W130).1
    have N130 := Fr.snoc X130 N126 ge127
    have V130' : Arv Z h130 b127 k127 .byte (4 : Int32) [(.int (x1.toInt8.toInt32)), (.int (0 : Int32)), (.int (0 : Int32)), (.int (0 : Int32))] (.int (0 : Int32)) := by have q := V130; rw [own_nb] at q; exact q
    refine own_go st130 ?_
    show own_Got p e below _ T130 (mkF m 133 #[.val (.int x0), .val (.int x1), .val (.int x2), .val (.int (6 : Int32)), .val (.ref b120), .val (.ref b127), .unset, .unset, .unset] [])
    refine g_aload X130 hx hby at_133 rfl rfl (rfl : 133 + 2 = 135) ?_
    refine g_iconst X130 hx hby (1 : Int32) at_135 (by decide) (rfl : 135 + 1 = 136) ?_
    refine g_iloadN X130 hx hby at_136 rfl (rfl : 136 + 1 = 137) ?_
    refine g_bipush X130 hx hby (8 : Int32) at_137 (by decide) (rfl : 137 + 2 = 139) ?_
    refine g_iushr X130 hx hby at_139 (rfl : 139 + 1 = 140) ?_
    refine g_i2b X130 hx hby at_140 (rfl : 140 + 1 = 141) ?_
    obtain ⟨T131, h131, X131, e131, W131, V131, st131⟩ := a_bastore X130 hx hby hZ e130 (ls := #[.val (.int x0), .val (.int x1), .val (.int x2), .val (.int (6 : Int32)), .val (.ref b120), .val (.ref b127), .unset, .unset, .unset]) (st := []) (j := (1 : Int32)) (((x1.toUInt32 >>> ((8 : Int32) &&& 31).toUInt32).toInt32).toInt8.toInt32) 1 V130' ⟨by decide, by decide⟩ (by decide) (Nat.le_of_ble_eq_true rfl) at_141
    have Z131 : n0 ≤ h131.size := Nat.le_trans Z130 (Keep.of_wr W131).1
    have N131 := Fr.snoc X131 N130 ge127
    have V131' : Arv Z h131 b127 k127 .byte (4 : Int32) [(.int (x1.toInt8.toInt32)), (.int (((x1.toUInt32 >>> ((8 : Int32) &&& 31).toUInt32).toInt32).toInt8.toInt32)), (.int (0 : Int32)), (.int (0 : Int32))] (.int (0 : Int32)) := by have q := V131; rw [own_nb] at q; exact q
    refine own_go st131 ?_
    show own_Got p e below _ T131 (mkF m 142 #[.val (.int x0), .val (.int x1), .val (.int x2), .val (.int (6 : Int32)), .val (.ref b120), .val (.ref b127), .unset, .unset, .unset] [])
    refine g_aload X131 hx hby at_142 rfl rfl (rfl : 142 + 2 = 144) ?_
    refine g_iconst X131 hx hby (2 : Int32) at_144 (by decide) (rfl : 144 + 1 = 145) ?_
    refine g_iloadN X131 hx hby at_145 rfl (rfl : 145 + 1 = 146) ?_
    refine g_bipush X131 hx hby (16 : Int32) at_146 (by decide) (rfl : 146 + 2 = 148) ?_
    refine g_iushr X131 hx hby at_148 (rfl : 148 + 1 = 149) ?_
    refine g_i2b X131 hx hby at_149 (rfl : 149 + 1 = 150) ?_
    obtain ⟨T132, h132, X132, e132, W132, V132, st132⟩ := a_bastore X131 hx hby hZ e131 (ls := #[.val (.int x0), .val (.int x1), .val (.int x2), .val (.int (6 : Int32)), .val (.ref b120), .val (.ref b127), .unset, .unset, .unset]) (st := []) (j := (2 : Int32)) (((x1.toUInt32 >>> ((16 : Int32) &&& 31).toUInt32).toInt32).toInt8.toInt32) 2 V131' ⟨by decide, by decide⟩ (by decide) (Nat.le_of_ble_eq_true rfl) at_150
    have Z132 : n0 ≤ h132.size := Nat.le_trans Z131 (Keep.of_wr W132).1
    have N132 := Fr.snoc X132 N131 ge127
    have V132' : Arv Z h132 b127 k127 .byte (4 : Int32) [(.int (x1.toInt8.toInt32)), (.int (((x1.toUInt32 >>> ((8 : Int32) &&& 31).toUInt32).toInt32).toInt8.toInt32)), (.int (((x1.toUInt32 >>> ((16 : Int32) &&& 31).toUInt32).toInt32).toInt8.toInt32)), (.int (0 : Int32))] (.int (0 : Int32)) := by have q := V132; rw [own_nb] at q; exact q
    refine own_go st132 ?_
    show own_Got p e below _ T132 (mkF m 151 #[.val (.int x0), .val (.int x1), .val (.int x2), .val (.int (6 : Int32)), .val (.ref b120), .val (.ref b127), .unset, .unset, .unset] [])
    refine g_aload X132 hx hby at_151 rfl rfl (rfl : 151 + 2 = 153) ?_
    refine g_iconst X132 hx hby (3 : Int32) at_153 (by decide) (rfl : 153 + 1 = 154) ?_
    refine g_iloadN X132 hx hby at_154 rfl (rfl : 154 + 1 = 155) ?_
    refine g_bipush X132 hx hby (24 : Int32) at_155 (by decide) (rfl : 155 + 2 = 157) ?_
    refine g_iushr X132 hx hby at_157 (rfl : 157 + 1 = 158) ?_
    refine g_i2b X132 hx hby at_158 (rfl : 158 + 1 = 159) ?_
    obtain ⟨T133, h133, X133, e133, W133, V133, st133⟩ := a_bastore X132 hx hby hZ e132 (ls := #[.val (.int x0), .val (.int x1), .val (.int x2), .val (.int (6 : Int32)), .val (.ref b120), .val (.ref b127), .unset, .unset, .unset]) (st := []) (j := (3 : Int32)) (((x1.toUInt32 >>> ((24 : Int32) &&& 31).toUInt32).toInt32).toInt8.toInt32) 3 V132' ⟨by decide, by decide⟩ (by decide) (Nat.le_of_ble_eq_true rfl) at_159
    have Z133 : n0 ≤ h133.size := Nat.le_trans Z132 (Keep.of_wr W133).1
    have N133 := Fr.snoc X133 N132 ge127
    have V133' : Arv Z h133 b127 k127 .byte (4 : Int32) [(.int (x1.toInt8.toInt32)), (.int (((x1.toUInt32 >>> ((8 : Int32) &&& 31).toUInt32).toInt32).toInt8.toInt32)), (.int (((x1.toUInt32 >>> ((16 : Int32) &&& 31).toUInt32).toInt32).toInt8.toInt32)), (.int (((x1.toUInt32 >>> ((24 : Int32) &&& 31).toUInt32).toInt32).toInt8.toInt32))] (.int (0 : Int32)) := by have q := V133; rw [own_nb] at q; exact q
    refine own_go st133 ?_
    show own_Got p e below _ T133 (mkF m 160 #[.val (.int x0), .val (.int x1), .val (.int x2), .val (.int (6 : Int32)), .val (.ref b120), .val (.ref b127), .unset, .unset, .unset] [])
    refine g_aload X133 hx hby at_160 rfl rfl (rfl : 160 + 2 = 162) ?_
    have f135 : Arv Z h133 b120 k120 .byte (6 : Int32) [(.int (x1.toInt8.toInt32)), (.int (((x1.toUInt32 >>> ((8 : Int32) &&& 31).toUInt32).toInt32).toInt8.toInt32)), (.int (((x1.toUInt32 >>> ((16 : Int32) &&& 31).toUInt32).toInt32).toInt8.toInt32)), (.int (((x1.toUInt32 >>> ((24 : Int32) &&& 31).toUInt32).toInt32).toInt8.toInt32)), (.int (x2.toInt8.toInt32)), (.int (((x2.toUInt32 >>> ((8 : Int32) &&& 31).toUInt32).toInt32).toInt8.toInt32))] (.int (0 : Int32)) := (Arv.other (Arv.other (Arv.other (Arv.other (V126'.ext E127) W130 ne129) W131 ne129) W132 ne129) W133 ne129)
    obtain ⟨_, _, ⟨T134, L134, k134, n134⟩, -, X134, ⟨Lc134, hQ134, l134, y134, z134⟩, st134⟩ := Jvm.LawKit.callS X133 hx (y := (⟨"com/example/farshard/farshard/store/Murmur3", "hash32", "([B)I"⟩ : MethodName)) hown (mvT hZ (hw _ (List.mem_of_getElem? (i := 2) rfl))) (mvT hZ (hw _ (List.mem_of_getElem? (i := 3) rfl))) (mvT hZ (hw _ (List.mem_of_getElem? (i := 4) rfl))) (mvT hZ (hw _ (List.mem_of_getElem? (i := 5) rfl))) (by decide) (backOf (W := 0) (rm_hs6 l Z aT hw [] b120 k120 (x1.toInt8.toInt32) (((x1.toUInt32 >>> ((8 : Int32) &&& 31).toUInt32).toInt32).toInt8.toInt32) (((x1.toUInt32 >>> ((16 : Int32) &&& 31).toUInt32).toInt32).toInt8.toInt32) (((x1.toUInt32 >>> ((24 : Int32) &&& 31).toUInt32).toInt32).toInt8.toInt32) (x2.toInt8.toInt32) (((x2.toUInt32 >>> ((8 : Int32) &&& 31).toUInt32).toInt32).toInt8.toInt32) h133 n0 Z133 f135) hZ (hw _ (List.mem_of_getElem? (i := 5) rfl)) (hw _ (List.mem_of_getElem? (i := 4) rfl)) (by decide) (by decide)) (g := (mkF m 162 #[.val (.int x0), .val (.int x1), .val (.int x2), .val (.int (6 : Int32)), .val (.ref b120), .val (.ref b127), .unset, .unset, .unset] [(.ref b120)])) rfl (by rw [hml]; rfl) (argsL := [(.ref b120)]) (rest := []) (lenOf pd2 rfl) rfl (by show 2 * 0 + _ ≤ _; exact Nat.le_of_eq rfl) (hb hby at_162) (fun _ _ => ⟨rfl, e133, (by decide : 2 + 0 ≤ _), (by decide : 10 + 0 ≤ _)⟩)
    dsimp only [Pt.U, Pt.locs, Pt.cells, Pt.slots] at X134 l134 y134 z134 st134 hQ134
    subst l134 y134 z134
    obtain ⟨rfl, N134q, eq134⟩ := hQ134
    have N134 := Fr.app N133 N134q
    refine own_go st134 ?_
    show own_Got p e below _ T134 (mkF m 165 #[.val (.int x0), .val (.int x1), .val (.int x2), .val (.int (6 : Int32)), .val (.ref b120), .val (.ref b127), .unset, .unset, .unset] [(.int (F_hs6 (x1.toInt8.toInt32) (((x1.toUInt32 >>> ((8 : Int32) &&& 31).toUInt32).toInt32).toInt8.toInt32) (((x1.toUInt32 >>> ((16 : Int32) &&& 31).toUInt32).toInt32).toInt8.toInt32) (((x1.toUInt32 >>> ((24 : Int32) &&& 31).toUInt32).toInt32).toInt8.toInt32) (x2.toInt8.toInt32) (((x2.toUInt32 >>> ((8 : Int32) &&& 31).toUInt32).toInt32).toInt8.toInt32)))])
    refine g_istore X134 hx hby #[.val (.int x0), .val (.int x1), .val (.int x2), .val (.int (6 : Int32)), .val (.ref b120), .val (.ref b127), .val (.int (F_hs6 (x1.toInt8.toInt32) (((x1.toUInt32 >>> ((8 : Int32) &&& 31).toUInt32).toInt32).toInt8.toInt32) (((x1.toUInt32 >>> ((16 : Int32) &&& 31).toUInt32).toInt32).toInt8.toInt32) (((x1.toUInt32 >>> ((24 : Int32) &&& 31).toUInt32).toInt32).toInt8.toInt32) (x2.toInt8.toInt32) (((x2.toUInt32 >>> ((8 : Int32) &&& 31).toUInt32).toInt32).toInt8.toInt32))), .unset, .unset] at_165 rfl (rfl : 165 + 2 = 167) ?_
    refine g_iload X134 hx hby at_167 rfl (rfl : 167 + 2 = 169) ?_
    obtain ⟨_, _, ⟨T136, L136, k136, n136⟩, -, X136, ⟨Lc136, hQ136, l136, y136, z136⟩, st136⟩ := Jvm.LawKit.callS X134 hx (y := (⟨"com/example/farshard/farshard/store/Murmur3Hash32PinLaw", "invFmix", "(I)I"⟩ : MethodName)) hown (mvT hZ (hw _ (List.mem_of_getElem? (i := 8) rfl))) (mvT hZ (hw _ (List.mem_of_getElem? (i := 9) rfl))) (mvT hZ (hw _ (List.mem_of_getElem? (i := 10) rfl))) (mvT hZ (hw _ (List.mem_of_getElem? (i := 11) rfl))) (by decide) (backOf (W := 0) (rm_ifx l Z aT hw [] (F_hs6 (x1.toInt8.toInt32) (((x1.toUInt32 >>> ((8 : Int32) &&& 31).toUInt32).toInt32).toInt8.toInt32) (((x1.toUInt32 >>> ((16 : Int32) &&& 31).toUInt32).toInt32).toInt8.toInt32) (((x1.toUInt32 >>> ((24 : Int32) &&& 31).toUInt32).toInt32).toInt8.toInt32) (x2.toInt8.toInt32) (((x2.toUInt32 >>> ((8 : Int32) &&& 31).toUInt32).toInt32).toInt8.toInt32)) h133 n0 Z133) hZ (hw _ (List.mem_of_getElem? (i := 11) rfl)) (hw _ (List.mem_of_getElem? (i := 10) rfl)) (by decide) (by decide)) (g := (mkF m 169 #[.val (.int x0), .val (.int x1), .val (.int x2), .val (.int (6 : Int32)), .val (.ref b120), .val (.ref b127), .val (.int (F_hs6 (x1.toInt8.toInt32) (((x1.toUInt32 >>> ((8 : Int32) &&& 31).toUInt32).toInt32).toInt8.toInt32) (((x1.toUInt32 >>> ((16 : Int32) &&& 31).toUInt32).toInt32).toInt8.toInt32) (((x1.toUInt32 >>> ((24 : Int32) &&& 31).toUInt32).toInt32).toInt8.toInt32) (x2.toInt8.toInt32) (((x2.toUInt32 >>> ((8 : Int32) &&& 31).toUInt32).toInt32).toInt8.toInt32))), .unset, .unset] [(.int (F_hs6 (x1.toInt8.toInt32) (((x1.toUInt32 >>> ((8 : Int32) &&& 31).toUInt32).toInt32).toInt8.toInt32) (((x1.toUInt32 >>> ((16 : Int32) &&& 31).toUInt32).toInt32).toInt8.toInt32) (((x1.toUInt32 >>> ((24 : Int32) &&& 31).toUInt32).toInt32).toInt8.toInt32) (x2.toInt8.toInt32) (((x2.toUInt32 >>> ((8 : Int32) &&& 31).toUInt32).toInt32).toInt8.toInt32)))])) rfl (by rw [hml]; rfl) (argsL := [(.int (F_hs6 (x1.toInt8.toInt32) (((x1.toUInt32 >>> ((8 : Int32) &&& 31).toUInt32).toInt32).toInt8.toInt32) (((x1.toUInt32 >>> ((16 : Int32) &&& 31).toUInt32).toInt32).toInt8.toInt32) (((x1.toUInt32 >>> ((24 : Int32) &&& 31).toUInt32).toInt32).toInt8.toInt32) (x2.toInt8.toInt32) (((x2.toUInt32 >>> ((8 : Int32) &&& 31).toUInt32).toInt32).toInt8.toInt32)))]) (rest := []) (lenOf pd1 rfl) rfl (by show 2 * 0 + _ ≤ _; exact Nat.le_of_eq rfl) (hb hby at_169) (fun _ _ => ⟨rfl, eq134, (by decide : 2 + 0 ≤ _), (by decide : 10 + 0 ≤ _)⟩)
    dsimp only [Pt.U, Pt.locs, Pt.cells, Pt.slots] at X136 l136 y136 z136 st136 hQ136
    subst l136 y136 z136
    obtain ⟨rfl, N136q, eq136⟩ := hQ136
    have N136 := Fr.app N134 N136q
    refine own_go st136 ?_
    show own_Got p e below _ T136 (mkF m 172 #[.val (.int x0), .val (.int x1), .val (.int x2), .val (.int (6 : Int32)), .val (.ref b120), .val (.ref b127), .val (.int (F_hs6 (x1.toInt8.toInt32) (((x1.toUInt32 >>> ((8 : Int32) &&& 31).toUInt32).toInt32).toInt8.toInt32) (((x1.toUInt32 >>> ((16 : Int32) &&& 31).toUInt32).toInt32).toInt8.toInt32) (((x1.toUInt32 >>> ((24 : Int32) &&& 31).toUInt32).toInt32).toInt8.toInt32) (x2.toInt8.toInt32) (((x2.toUInt32 >>> ((8 : Int32) &&& 31).toUInt32).toInt32).toInt8.toInt32))), .unset, .unset] [(.int (F_ifx (F_hs6 (x1.toInt8.toInt32) (((x1.toUInt32 >>> ((8 : Int32) &&& 31).toUInt32).toInt32).toInt8.toInt32) (((x1.toUInt32 >>> ((16 : Int32) &&& 31).toUInt32).toInt32).toInt8.toInt32) (((x1.toUInt32 >>> ((24 : Int32) &&& 31).toUInt32).toInt32).toInt8.toInt32) (x2.toInt8.toInt32) (((x2.toUInt32 >>> ((8 : Int32) &&& 31).toUInt32).toInt32).toInt8.toInt32))))])
    refine g_iloadN X136 hx hby at_172 rfl (rfl : 172 + 1 = 173) ?_
    refine g_ixor X136 hx hby at_173 (rfl : 173 + 1 = 174) ?_
    refine g_istore X136 hx hby #[.val (.int x0), .val (.int x1), .val (.int x2), .val (.int (6 : Int32)), .val (.ref b120), .val (.ref b127), .val (.int (F_hs6 (x1.toInt8.toInt32) (((x1.toUInt32 >>> ((8 : Int32) &&& 31).toUInt32).toInt32).toInt8.toInt32) (((x1.toUInt32 >>> ((16 : Int32) &&& 31).toUInt32).toInt32).toInt8.toInt32) (((x1.toUInt32 >>> ((24 : Int32) &&& 31).toUInt32).toInt32).toInt8.toInt32) (x2.toInt8.toInt32) (((x2.toUInt32 >>> ((8 : Int32) &&& 31).toUInt32).toInt32).toInt8.toInt32))), .val (.int ((F_ifx (F_hs6 (x1.toInt8.toInt32) (((x1.toUInt32 >>> ((8 : Int32) &&& 31).toUInt32).toInt32).toInt8.toInt32) (((x1.toUInt32 >>> ((16 : Int32) &&& 31).toUInt32).toInt32).toInt8.toInt32) (((x1.toUInt32 >>> ((24 : Int32) &&& 31).toUInt32).toInt32).toInt8.toInt32) (x2.toInt8.toInt32) (((x2.toUInt32 >>> ((8 : Int32) &&& 31).toUInt32).toInt32).toInt8.toInt32))) ^^^ (6 : Int32))), .unset] at_174 rfl (rfl : 174 + 2 = 176) ?_
    refine g_iloadN X136 hx hby at_176 rfl (rfl : 176 + 1 = 177) ?_
    refine g_ifT X136 hx hby at_177 ((if0 _ _).trans (feq (by decide : ¬ ((6 : Int32) = (0 : Int32)))).2) (by decide) (pc' := 191) (by decide) ?_
    refine g_iloadN X136 hx hby at_191 rfl (rfl : 191 + 1 = 192) ?_
    refine g_iconst X136 hx hby (4 : Int32) at_192 (by decide) (rfl : 192 + 1 = 193) ?_
    refine g_icT X136 hx hby at_193 (flt (by decide : ¬ ((6 : Int32) < (4 : Int32)))).2.1 (by decide) (pc' := 220) (by decide) ?_
    refine g_iloadN X136 hx hby at_220 rfl (rfl : 220 + 1 = 221) ?_
    refine g_iconst X136 hx hby (4 : Int32) at_221 (by decide) (rfl : 221 + 1 = 222) ?_
    refine g_icT X136 hx hby at_222 (feq (by decide : ¬ ((6 : Int32) = (4 : Int32)))).2 (by decide) (pc' := 243) (by decide) ?_
    refine g_aload X136 hx hby at_243 rfl rfl (rfl : 243 + 2 = 245) ?_
    obtain ⟨_, _, ⟨T137, L137, k137, n137⟩, -, X137, ⟨Lc137, hQ137, l137, y137, z137⟩, st137⟩ := Jvm.LawKit.callS X136 hx (y := (⟨"com/example/farshard/farshard/store/Murmur3", "hash32", "([B)I"⟩ : MethodName)) hown (mvT hZ (hw _ (List.mem_of_getElem? (i := 2) rfl))) (mvT hZ (hw _ (List.mem_of_getElem? (i := 3) rfl))) (mvT hZ (hw _ (List.mem_of_getElem? (i := 4) rfl))) (mvT hZ (hw _ (List.mem_of_getElem? (i := 5) rfl))) (by decide) (backOf (W := 0) (rm_hs4 l Z aT hw [] b127 k127 (x1.toInt8.toInt32) (((x1.toUInt32 >>> ((8 : Int32) &&& 31).toUInt32).toInt32).toInt8.toInt32) (((x1.toUInt32 >>> ((16 : Int32) &&& 31).toUInt32).toInt32).toInt8.toInt32) (((x1.toUInt32 >>> ((24 : Int32) &&& 31).toUInt32).toInt32).toInt8.toInt32) h133 n0 Z133 V133') hZ (hw _ (List.mem_of_getElem? (i := 5) rfl)) (hw _ (List.mem_of_getElem? (i := 4) rfl)) (by decide) (by decide)) (g := (mkF m 245 #[.val (.int x0), .val (.int x1), .val (.int x2), .val (.int (6 : Int32)), .val (.ref b120), .val (.ref b127), .val (.int (F_hs6 (x1.toInt8.toInt32) (((x1.toUInt32 >>> ((8 : Int32) &&& 31).toUInt32).toInt32).toInt8.toInt32) (((x1.toUInt32 >>> ((16 : Int32) &&& 31).toUInt32).toInt32).toInt8.toInt32) (((x1.toUInt32 >>> ((24 : Int32) &&& 31).toUInt32).toInt32).toInt8.toInt32) (x2.toInt8.toInt32) (((x2.toUInt32 >>> ((8 : Int32) &&& 31).toUInt32).toInt32).toInt8.toInt32))), .val (.int ((F_ifx (F_hs6 (x1.toInt8.toInt32) (((x1.toUInt32 >>> ((8 : Int32) &&& 31).toUInt32).toInt32).toInt8.toInt32) (((x1.toUInt32 >>> ((16 : Int32) &&& 31).toUInt32).toInt32).toInt8.toInt32) (((x1.toUInt32 >>> ((24 : Int32) &&& 31).toUInt32).toInt32).toInt8.toInt32) (x2.toInt8.toInt32) (((x2.toUInt32 >>> ((8 : Int32) &&& 31).toUInt32).toInt32).toInt8.toInt32))) ^^^ (6 : Int32))), .unset] [(.ref b127)])) rfl (by rw [hml]; rfl) (argsL := [(.ref b127)]) (rest := []) (lenOf pd2 rfl) rfl (by show 2 * 0 + _ ≤ _; exact Nat.le_of_eq rfl) (hb hby at_245) (fun _ _ => ⟨rfl, eq136, (by decide : 2 + 0 ≤ _), (by decide : 10 + 0 ≤ _)⟩)
    dsimp only [Pt.U, Pt.locs, Pt.cells, Pt.slots] at X137 l137 y137 z137 st137 hQ137
    subst l137 y137 z137
    obtain ⟨rfl, N137q, eq137⟩ := hQ137
    have N137 := Fr.app N136 N137q
    refine own_go st137 ?_
    show own_Got p e below _ T137 (mkF m 248 #[.val (.int x0), .val (.int x1), .val (.int x2), .val (.int (6 : Int32)), .val (.ref b120), .val (.ref b127), .val (.int (F_hs6 (x1.toInt8.toInt32) (((x1.toUInt32 >>> ((8 : Int32) &&& 31).toUInt32).toInt32).toInt8.toInt32) (((x1.toUInt32 >>> ((16 : Int32) &&& 31).toUInt32).toInt32).toInt8.toInt32) (((x1.toUInt32 >>> ((24 : Int32) &&& 31).toUInt32).toInt32).toInt8.toInt32) (x2.toInt8.toInt32) (((x2.toUInt32 >>> ((8 : Int32) &&& 31).toUInt32).toInt32).toInt8.toInt32))), .val (.int ((F_ifx (F_hs6 (x1.toInt8.toInt32) (((x1.toUInt32 >>> ((8 : Int32) &&& 31).toUInt32).toInt32).toInt8.toInt32) (((x1.toUInt32 >>> ((16 : Int32) &&& 31).toUInt32).toInt32).toInt8.toInt32) (((x1.toUInt32 >>> ((24 : Int32) &&& 31).toUInt32).toInt32).toInt8.toInt32) (x2.toInt8.toInt32) (((x2.toUInt32 >>> ((8 : Int32) &&& 31).toUInt32).toInt32).toInt8.toInt32))) ^^^ (6 : Int32))), .unset] [(.int (F_hs4 (x1.toInt8.toInt32) (((x1.toUInt32 >>> ((8 : Int32) &&& 31).toUInt32).toInt32).toInt8.toInt32) (((x1.toUInt32 >>> ((16 : Int32) &&& 31).toUInt32).toInt32).toInt8.toInt32) (((x1.toUInt32 >>> ((24 : Int32) &&& 31).toUInt32).toInt32).toInt8.toInt32)))])
    obtain ⟨_, _, ⟨T138, L138, k138, n138⟩, -, X138, ⟨Lc138, hQ138, l138, y138, z138⟩, st138⟩ := Jvm.LawKit.callS X137 hx (y := (⟨"com/example/farshard/farshard/store/Murmur3Hash32PinLaw", "invFmix", "(I)I"⟩ : MethodName)) hown (mvT hZ (hw _ (List.mem_of_getElem? (i := 8) rfl))) (mvT hZ (hw _ (List.mem_of_getElem? (i := 9) rfl))) (mvT hZ (hw _ (List.mem_of_getElem? (i := 10) rfl))) (mvT hZ (hw _ (List.mem_of_getElem? (i := 11) rfl))) (by decide) (backOf (W := 0) (rm_ifx l Z aT hw [] (F_hs4 (x1.toInt8.toInt32) (((x1.toUInt32 >>> ((8 : Int32) &&& 31).toUInt32).toInt32).toInt8.toInt32) (((x1.toUInt32 >>> ((16 : Int32) &&& 31).toUInt32).toInt32).toInt8.toInt32) (((x1.toUInt32 >>> ((24 : Int32) &&& 31).toUInt32).toInt32).toInt8.toInt32)) h133 n0 Z133) hZ (hw _ (List.mem_of_getElem? (i := 11) rfl)) (hw _ (List.mem_of_getElem? (i := 10) rfl)) (by decide) (by decide)) (g := (mkF m 248 #[.val (.int x0), .val (.int x1), .val (.int x2), .val (.int (6 : Int32)), .val (.ref b120), .val (.ref b127), .val (.int (F_hs6 (x1.toInt8.toInt32) (((x1.toUInt32 >>> ((8 : Int32) &&& 31).toUInt32).toInt32).toInt8.toInt32) (((x1.toUInt32 >>> ((16 : Int32) &&& 31).toUInt32).toInt32).toInt8.toInt32) (((x1.toUInt32 >>> ((24 : Int32) &&& 31).toUInt32).toInt32).toInt8.toInt32) (x2.toInt8.toInt32) (((x2.toUInt32 >>> ((8 : Int32) &&& 31).toUInt32).toInt32).toInt8.toInt32))), .val (.int ((F_ifx (F_hs6 (x1.toInt8.toInt32) (((x1.toUInt32 >>> ((8 : Int32) &&& 31).toUInt32).toInt32).toInt8.toInt32) (((x1.toUInt32 >>> ((16 : Int32) &&& 31).toUInt32).toInt32).toInt8.toInt32) (((x1.toUInt32 >>> ((24 : Int32) &&& 31).toUInt32).toInt32).toInt8.toInt32) (x2.toInt8.toInt32) (((x2.toUInt32 >>> ((8 : Int32) &&& 31).toUInt32).toInt32).toInt8.toInt32))) ^^^ (6 : Int32))), .unset] [(.int (F_hs4 (x1.toInt8.toInt32) (((x1.toUInt32 >>> ((8 : Int32) &&& 31).toUInt32).toInt32).toInt8.toInt32) (((x1.toUInt32 >>> ((16 : Int32) &&& 31).toUInt32).toInt32).toInt8.toInt32) (((x1.toUInt32 >>> ((24 : Int32) &&& 31).toUInt32).toInt32).toInt8.toInt32)))])) rfl (by rw [hml]; rfl) (argsL := [(.int (F_hs4 (x1.toInt8.toInt32) (((x1.toUInt32 >>> ((8 : Int32) &&& 31).toUInt32).toInt32).toInt8.toInt32) (((x1.toUInt32 >>> ((16 : Int32) &&& 31).toUInt32).toInt32).toInt8.toInt32) (((x1.toUInt32 >>> ((24 : Int32) &&& 31).toUInt32).toInt32).toInt8.toInt32)))]) (rest := []) (lenOf pd1 rfl) rfl (by show 2 * 0 + _ ≤ _; exact Nat.le_of_eq rfl) (hb hby at_248) (fun _ _ => ⟨rfl, eq137, (by decide : 2 + 0 ≤ _), (by decide : 10 + 0 ≤ _)⟩)
    dsimp only [Pt.U, Pt.locs, Pt.cells, Pt.slots] at X138 l138 y138 z138 st138 hQ138
    subst l138 y138 z138
    obtain ⟨rfl, N138q, eq138⟩ := hQ138
    have N138 := Fr.app N137 N138q
    refine own_go st138 ?_
    show own_Got p e below _ T138 (mkF m 251 #[.val (.int x0), .val (.int x1), .val (.int x2), .val (.int (6 : Int32)), .val (.ref b120), .val (.ref b127), .val (.int (F_hs6 (x1.toInt8.toInt32) (((x1.toUInt32 >>> ((8 : Int32) &&& 31).toUInt32).toInt32).toInt8.toInt32) (((x1.toUInt32 >>> ((16 : Int32) &&& 31).toUInt32).toInt32).toInt8.toInt32) (((x1.toUInt32 >>> ((24 : Int32) &&& 31).toUInt32).toInt32).toInt8.toInt32) (x2.toInt8.toInt32) (((x2.toUInt32 >>> ((8 : Int32) &&& 31).toUInt32).toInt32).toInt8.toInt32))), .val (.int ((F_ifx (F_hs6 (x1.toInt8.toInt32) (((x1.toUInt32 >>> ((8 : Int32) &&& 31).toUInt32).toInt32).toInt8.toInt32) (((x1.toUInt32 >>> ((16 : Int32) &&& 31).toUInt32).toInt32).toInt8.toInt32) (((x1.toUInt32 >>> ((24 : Int32) &&& 31).toUInt32).toInt32).toInt8.toInt32) (x2.toInt8.toInt32) (((x2.toUInt32 >>> ((8 : Int32) &&& 31).toUInt32).toInt32).toInt8.toInt32))) ^^^ (6 : Int32))), .unset] [(.int (F_ifx (F_hs4 (x1.toInt8.toInt32) (((x1.toUInt32 >>> ((8 : Int32) &&& 31).toUInt32).toInt32).toInt8.toInt32) (((x1.toUInt32 >>> ((16 : Int32) &&& 31).toUInt32).toInt32).toInt8.toInt32) (((x1.toUInt32 >>> ((24 : Int32) &&& 31).toUInt32).toInt32).toInt8.toInt32))))])
    refine g_iconst X138 hx hby (4 : Int32) at_251 (by decide) (rfl : 251 + 1 = 252) ?_
    refine g_ixor X138 hx hby at_252 (rfl : 252 + 1 = 253) ?_
    refine g_istore X138 hx hby #[.val (.int x0), .val (.int x1), .val (.int x2), .val (.int (6 : Int32)), .val (.ref b120), .val (.ref b127), .val (.int (F_hs6 (x1.toInt8.toInt32) (((x1.toUInt32 >>> ((8 : Int32) &&& 31).toUInt32).toInt32).toInt8.toInt32) (((x1.toUInt32 >>> ((16 : Int32) &&& 31).toUInt32).toInt32).toInt8.toInt32) (((x1.toUInt32 >>> ((24 : Int32) &&& 31).toUInt32).toInt32).toInt8.toInt32) (x2.toInt8.toInt32) (((x2.toUInt32 >>> ((8 : Int32) &&& 31).toUInt32).toInt32).toInt8.toInt32))), .val (.int ((F_ifx (F_hs6 (x1.toInt8.toInt32) (((x1.toUInt32 >>> ((8 : Int32) &&& 31).toUInt32).toInt32).toInt8.toInt32) (((x1.toUInt32 >>> ((16 : Int32) &&& 31).toUInt32).toInt32).toInt8.toInt32) (((x1.toUInt32 >>> ((24 : Int32) &&& 31).toUInt32).toInt32).toInt8.toInt32) (x2.toInt8.toInt32) (((x2.toUInt32 >>> ((8 : Int32) &&& 31).toUInt32).toInt32).toInt8.toInt32))) ^^^ (6 : Int32))), .val (.int ((F_ifx (F_hs4 (x1.toInt8.toInt32) (((x1.toUInt32 >>> ((8 : Int32) &&& 31).toUInt32).toInt32).toInt8.toInt32) (((x1.toUInt32 >>> ((16 : Int32) &&& 31).toUInt32).toInt32).toInt8.toInt32) (((x1.toUInt32 >>> ((24 : Int32) &&& 31).toUInt32).toInt32).toInt8.toInt32))) ^^^ (4 : Int32)))] at_253 rfl (rfl : 253 + 2 = 255) ?_
    refine g_iloadN X138 hx hby at_255 rfl (rfl : 255 + 1 = 256) ?_
    refine g_bipush X138 hx hby (8 : Int32) at_256 (by decide) (rfl : 256 + 2 = 258) ?_
    refine g_icF X138 hx hby at_258 (tlt (by decide : (6 : Int32) < (8 : Int32))).2.1 (rfl : 258 + 3 = 261) ?_
    refine g_iload X138 hx hby at_261 rfl (rfl : 261 + 2 = 263) ?_
    refine g_iload X138 hx hby at_263 rfl (rfl : 263 + 2 = 265) ?_
    refine g_ixor X138 hx hby at_265 (rfl : 265 + 1 = 266) ?_
    obtain ⟨_, _, ⟨T139, L139, k139, n139⟩, -, X139, ⟨Lc139, hQ139, l139, y139, z139⟩, st139⟩ := Jvm.LawKit.callS X138 hx (y := (⟨"com/example/farshard/farshard/store/Murmur3Hash32PinLaw", "invMix", "(I)I"⟩ : MethodName)) hown (mvT hZ (hw _ (List.mem_of_getElem? (i := 26) rfl))) (mvT hZ (hw _ (List.mem_of_getElem? (i := 27) rfl))) (mvT hZ (hw _ (List.mem_of_getElem? (i := 10) rfl))) (mvT hZ (hw _ (List.mem_of_getElem? (i := 28) rfl))) (by decide) (backOf (W := 0) (rm_imx l Z aT hw [] (((F_ifx (F_hs6 (x1.toInt8.toInt32) (((x1.toUInt32 >>> ((8 : Int32) &&& 31).toUInt32).toInt32).toInt8.toInt32) (((x1.toUInt32 >>> ((16 : Int32) &&& 31).toUInt32).toInt32).toInt8.toInt32) (((x1.toUInt32 >>> ((24 : Int32) &&& 31).toUInt32).toInt32).toInt8.toInt32) (x2.toInt8.toInt32) (((x2.toUInt32 >>> ((8 : Int32) &&& 31).toUInt32).toInt32).toInt8.toInt32))) ^^^ (6 : Int32)) ^^^ ((F_ifx (F_hs4 (x1.toInt8.toInt32) (((x1.toUInt32 >>> ((8 : Int32) &&& 31).toUInt32).toInt32).toInt8.toInt32) (((x1.toUInt32 >>> ((16 : Int32) &&& 31).toUInt32).toInt32).toInt8.toInt32) (((x1.toUInt32 >>> ((24 : Int32) &&& 31).toUInt32).toInt32).toInt8.toInt32))) ^^^ (4 : Int32))) h133 n0 Z133) hZ (hw _ (List.mem_of_getElem? (i := 28) rfl)) (hw _ (List.mem_of_getElem? (i := 10) rfl)) (by decide) (by decide)) (g := (mkF m 266 #[.val (.int x0), .val (.int x1), .val (.int x2), .val (.int (6 : Int32)), .val (.ref b120), .val (.ref b127), .val (.int (F_hs6 (x1.toInt8.toInt32) (((x1.toUInt32 >>> ((8 : Int32) &&& 31).toUInt32).toInt32).toInt8.toInt32) (((x1.toUInt32 >>> ((16 : Int32) &&& 31).toUInt32).toInt32).toInt8.toInt32) (((x1.toUInt32 >>> ((24 : Int32) &&& 31).toUInt32).toInt32).toInt8.toInt32) (x2.toInt8.toInt32) (((x2.toUInt32 >>> ((8 : Int32) &&& 31).toUInt32).toInt32).toInt8.toInt32))), .val (.int ((F_ifx (F_hs6 (x1.toInt8.toInt32) (((x1.toUInt32 >>> ((8 : Int32) &&& 31).toUInt32).toInt32).toInt8.toInt32) (((x1.toUInt32 >>> ((16 : Int32) &&& 31).toUInt32).toInt32).toInt8.toInt32) (((x1.toUInt32 >>> ((24 : Int32) &&& 31).toUInt32).toInt32).toInt8.toInt32) (x2.toInt8.toInt32) (((x2.toUInt32 >>> ((8 : Int32) &&& 31).toUInt32).toInt32).toInt8.toInt32))) ^^^ (6 : Int32))), .val (.int ((F_ifx (F_hs4 (x1.toInt8.toInt32) (((x1.toUInt32 >>> ((8 : Int32) &&& 31).toUInt32).toInt32).toInt8.toInt32) (((x1.toUInt32 >>> ((16 : Int32) &&& 31).toUInt32).toInt32).toInt8.toInt32) (((x1.toUInt32 >>> ((24 : Int32) &&& 31).toUInt32).toInt32).toInt8.toInt32))) ^^^ (4 : Int32)))] [(.int (((F_ifx (F_hs6 (x1.toInt8.toInt32) (((x1.toUInt32 >>> ((8 : Int32) &&& 31).toUInt32).toInt32).toInt8.toInt32) (((x1.toUInt32 >>> ((16 : Int32) &&& 31).toUInt32).toInt32).toInt8.toInt32) (((x1.toUInt32 >>> ((24 : Int32) &&& 31).toUInt32).toInt32).toInt8.toInt32) (x2.toInt8.toInt32) (((x2.toUInt32 >>> ((8 : Int32) &&& 31).toUInt32).toInt32).toInt8.toInt32))) ^^^ (6 : Int32)) ^^^ ((F_ifx (F_hs4 (x1.toInt8.toInt32) (((x1.toUInt32 >>> ((8 : Int32) &&& 31).toUInt32).toInt32).toInt8.toInt32) (((x1.toUInt32 >>> ((16 : Int32) &&& 31).toUInt32).toInt32).toInt8.toInt32) (((x1.toUInt32 >>> ((24 : Int32) &&& 31).toUInt32).toInt32).toInt8.toInt32))) ^^^ (4 : Int32))))])) rfl (by rw [hml]; rfl) (argsL := [(.int (((F_ifx (F_hs6 (x1.toInt8.toInt32) (((x1.toUInt32 >>> ((8 : Int32) &&& 31).toUInt32).toInt32).toInt8.toInt32) (((x1.toUInt32 >>> ((16 : Int32) &&& 31).toUInt32).toInt32).toInt8.toInt32) (((x1.toUInt32 >>> ((24 : Int32) &&& 31).toUInt32).toInt32).toInt8.toInt32) (x2.toInt8.toInt32) (((x2.toUInt32 >>> ((8 : Int32) &&& 31).toUInt32).toInt32).toInt8.toInt32))) ^^^ (6 : Int32)) ^^^ ((F_ifx (F_hs4 (x1.toInt8.toInt32) (((x1.toUInt32 >>> ((8 : Int32) &&& 31).toUInt32).toInt32).toInt8.toInt32) (((x1.toUInt32 >>> ((16 : Int32) &&& 31).toUInt32).toInt32).toInt8.toInt32) (((x1.toUInt32 >>> ((24 : Int32) &&& 31).toUInt32).toInt32).toInt8.toInt32))) ^^^ (4 : Int32))))]) (rest := []) (lenOf pd1 rfl) rfl (by show 2 * 0 + _ ≤ _; exact Nat.le_of_eq rfl) (hb hby at_266) (fun _ _ => ⟨rfl, eq138, (by decide : 2 + 0 ≤ _), (by decide : 10 + 0 ≤ _)⟩)
    dsimp only [Pt.U, Pt.locs, Pt.cells, Pt.slots] at X139 l139 y139 z139 st139 hQ139
    subst l139 y139 z139
    obtain ⟨rfl, N139q, eq139⟩ := hQ139
    have N139 := Fr.app N138 N139q
    refine own_go st139 ?_
    show own_Got p e below _ T139 (mkF m 269 #[.val (.int x0), .val (.int x1), .val (.int x2), .val (.int (6 : Int32)), .val (.ref b120), .val (.ref b127), .val (.int (F_hs6 (x1.toInt8.toInt32) (((x1.toUInt32 >>> ((8 : Int32) &&& 31).toUInt32).toInt32).toInt8.toInt32) (((x1.toUInt32 >>> ((16 : Int32) &&& 31).toUInt32).toInt32).toInt8.toInt32) (((x1.toUInt32 >>> ((24 : Int32) &&& 31).toUInt32).toInt32).toInt8.toInt32) (x2.toInt8.toInt32) (((x2.toUInt32 >>> ((8 : Int32) &&& 31).toUInt32).toInt32).toInt8.toInt32))), .val (.int ((F_ifx (F_hs6 (x1.toInt8.toInt32) (((x1.toUInt32 >>> ((8 : Int32) &&& 31).toUInt32).toInt32).toInt8.toInt32) (((x1.toUInt32 >>> ((16 : Int32) &&& 31).toUInt32).toInt32).toInt8.toInt32) (((x1.toUInt32 >>> ((24 : Int32) &&& 31).toUInt32).toInt32).toInt8.toInt32) (x2.toInt8.toInt32) (((x2.toUInt32 >>> ((8 : Int32) &&& 31).toUInt32).toInt32).toInt8.toInt32))) ^^^ (6 : Int32))), .val (.int ((F_ifx (F_hs4 (x1.toInt8.toInt32) (((x1.toUInt32 >>> ((8 : Int32) &&& 31).toUInt32).toInt32).toInt8.toInt32) (((x1.toUInt32 >>> ((16 : Int32) &&& 31).toUInt32).toInt32).toInt8.toInt32) (((x1.toUInt32 >>> ((24 : Int32) &&& 31).toUInt32).toInt32).toInt8.toInt32))) ^^^ (4 : Int32)))] [(.int (F_imx (((F_ifx (F_hs6 (x1.toInt8.toInt32) (((x1.toUInt32 >>> ((8 : Int32) &&& 31).toUInt32).toInt32).toInt8.toInt32) (((x1.toUInt32 >>> ((16 : Int32) &&& 31).toUInt32).toInt32).toInt8.toInt32) (((x1.toUInt32 >>> ((24 : Int32) &&& 31).toUInt32).toInt32).toInt8.toInt32) (x2.toInt8.toInt32) (((x2.toUInt32 >>> ((8 : Int32) &&& 31).toUInt32).toInt32).toInt8.toInt32))) ^^^ (6 : Int32)) ^^^ ((F_ifx (F_hs4 (x1.toInt8.toInt32) (((x1.toUInt32 >>> ((8 : Int32) &&& 31).toUInt32).toInt32).toInt8.toInt32) (((x1.toUInt32 >>> ((16 : Int32) &&& 31).toUInt32).toInt32).toInt8.toInt32) (((x1.toUInt32 >>> ((24 : Int32) &&& 31).toUInt32).toInt32).toInt8.toInt32))) ^^^ (4 : Int32)))))])
    refine g_iloadN X139 hx hby at_269 rfl (rfl : 269 + 1 = 270) ?_
    refine g_iconst X139 hx hby (1 : Int32) at_270 (by decide) (rfl : 270 + 1 = 271) ?_
    refine g_bipush X139 hx hby (8 : Int32) at_271 (by decide) (rfl : 271 + 2 = 273) ?_
    refine g_iloadN X139 hx hby at_273 rfl (rfl : 273 + 1 = 274) ?_
    refine g_iconst X139 hx hby (4 : Int32) at_274 (by decide) (rfl : 274 + 1 = 275) ?_
    refine g_isub X139 hx hby at_275 (rfl : 275 + 1 = 276) ?_
    rw [(by decide : ((6 : Int32) - (4 : Int32)) = (2 : Int32))]
    refine g_imul X139 hx hby at_276 (rfl : 276 + 1 = 277) ?_
    rw [(by decide : ((8 : Int32) * (2 : Int32)) = (16 : Int32))]
    refine g_ishl X139 hx hby at_277 (rfl : 277 + 1 = 278) ?_
    rw [(by decide : ((1 : Int32) <<< ((16 : Int32) &&& 31)) = (65536 : Int32))]
    refine g_iconst X139 hx hby (1 : Int32) at_278 (by decide) (rfl : 278 + 1 = 279) ?_
    refine g_isub X139 hx hby at_279 (rfl : 279 + 1 = 280) ?_
    rw [(by decide : ((65536 : Int32) - (1 : Int32)) = (65535 : Int32))]
    refine g_iand X139 hx hby at_280 (rfl : 280 + 1 = 281) ?_
    have c140 : (F_imx (((F_ifx (F_hs6 (x1.toInt8.toInt32) (((x1.toUInt32 >>> ((8 : Int32) &&& 31).toUInt32).toInt32).toInt8.toInt32) (((x1.toUInt32 >>> ((16 : Int32) &&& 31).toUInt32).toInt32).toInt8.toInt32) (((x1.toUInt32 >>> ((24 : Int32) &&& 31).toUInt32).toInt32).toInt8.toInt32) (x2.toInt8.toInt32) (((x2.toUInt32 >>> ((8 : Int32) &&& 31).toUInt32).toInt32).toInt8.toInt32))) ^^^ (6 : Int32)) ^^^ ((F_ifx (F_hs4 (x1.toInt8.toInt32) (((x1.toUInt32 >>> ((8 : Int32) &&& 31).toUInt32).toInt32).toInt8.toInt32) (((x1.toUInt32 >>> ((16 : Int32) &&& 31).toUInt32).toInt32).toInt8.toInt32) (((x1.toUInt32 >>> ((24 : Int32) &&& 31).toUInt32).toInt32).toInt8.toInt32))) ^^^ (4 : Int32)))) = (x2 &&& (65535 : Int32)) := own_h6 x1 x2
    refine g_icF X139 hx hby at_281 (teq c140).2 (rfl : 281 + 3 = 284) ?_
    refine g_iconst X139 hx hby (1 : Int32) at_284 (by decide) (rfl : 284 + 1 = 285) ?_
    refine g_goto X139 hx hby at_285 (by decide) (pc' := 289) (by decide) ?_
    refine own_retN X139 hx hby hlk (t := .boolean) hrt (by simp) at_289 (by decide) (by decide) ?_
    show Q_law Z x0 x1 x2 h0 n0 _ T139.heap _
    exact ⟨rfl, N139⟩
  · rw [hk25]
    refine g_iloadN X0 hx hby at_8 rfl (rfl : 8 + 1 = 9) ?_
    obtain ⟨T141, h141, k141, X141, e141, E141, A141, B141, st141⟩ := newPE X0 hx hZ (hw _ (List.mem_of_getElem? (i := 1) rfl)) e0 (g := (mkF m 9 #[.val (.int x0), .val (.int x1), .val (.int x2), .val (.int (7 : Int32)), .unset, .unset, .unset, .unset, .unset] [(.int (7 : Int32))])) rfl (hb hby at_9) rfl (by decide) (cap := 7) (by decide) (by decide) (by decide) (by decide) (ad := "[B") (by decide +kernel)
    obtain ⟨b141, g141⟩ : ∃ z, z = h0.size := ⟨_, rfl⟩
    rw [← g141] at A141 B141 st141
    have Z141 : n0 ≤ h141.size := Nat.le_trans Z0 E141.1
    have ge141 : n0 ≤ b141 := Nat.le_trans Z0 (Nat.le_of_eq g141.symm)
    have V141 : Arv Z h141 b141 k141 .byte (7 : Int32) [(.int (0 : Int32)), (.int (0 : Int32)), (.int (0 : Int32)), (.int (0 : Int32)), (.int (0 : Int32)), (.int (0 : Int32)), (.int (0 : Int32))] (.int (0 : Int32)) := (Arv.new A141 (by decide)).pad (pad_rep [] _ 7)
    refine own_go st141 ?_
    show own_Got p e below _ T141 (mkF m 11 #[.val (.int x0), .val (.int x1), .val (.int x2), .val (.int (7 : Int32)), .unset, .unset, .unset, .unset, .unset] [(.ref b141)])
    refine g_astore X141 hx hby #[.val (.int x0), .val (.int x1), .val (.int x2), .val (.int (7 : Int32)), .val (.ref b141), .unset, .unset, .unset, .unset] at_11 rfl rfl (rfl : 11 + 2 = 13) ?_
    refine g_iloadN X141 hx hby at_13 rfl (rfl : 13 + 1 = 14) ?_
    refine g_ifF X141 hx hby at_14 ((if0 _ _).trans (tlt (by decide : (0 : Int32) < (7 : Int32))).2.2.2) (rfl : 14 + 3 = 17) ?_
    refine g_aload X141 hx hby at_17 rfl rfl (rfl : 17 + 2 = 19) ?_
    refine g_iconst X141 hx hby (0 : Int32) at_19 (by decide) (rfl : 19 + 1 = 20) ?_
    refine g_iloadN X141 hx hby at_20 rfl (rfl : 20 + 1 = 21) ?_
    refine g_i2b X141 hx hby at_21 (rfl : 21 + 1 = 22) ?_
    obtain ⟨T142, h142, X142, e142, W142, V142, st142⟩ := a_bastore X141 hx hby hZ e141 (ls := #[.val (.int x0), .val (.int x1), .val (.int x2), .val (.int (7 : Int32)), .val (.ref b141), .unset, .unset, .unset, .unset]) (st := []) (j := (0 : Int32)) (x1.toInt8.toInt32) 0 V141 ⟨by decide, by decide⟩ (by decide) (Nat.le_of_ble_eq_true rfl) at_22
    have Z142 : n0 ≤ h142.size := Nat.le_trans Z141 (Keep.of_wr W142).1
    have N142 := Fr.snoc X142 N0 ge141
    have V142' : Arv Z h142 b141 k141 .byte (7 : Int32) [(.int (x1.toInt8.toInt32)), (.int (0 : Int32)), (.int (0 : Int32)), (.int (0 : Int32)), (.int (0 : Int32)), (.int (0 : Int32)), (.int (0 : Int32))] (.int (0 : Int32)) := by have q := V142; rw [own_nb] at q; exact q
    refine own_go st142 ?_
    show own_Got p e below _ T142 (mkF m 23 #[.val (.int x0), .val (.int x1), .val (.int x2), .val (.int (7 : Int32)), .val (.ref b141), .unset, .unset, .unset, .unset] [])
    refine g_iloadN X142 hx hby at_23 rfl (rfl : 23 + 1 = 24) ?_
    refine g_iconst X142 hx hby (1 : Int32) at_24 (by decide) (rfl : 24 + 1 = 25) ?_
    refine g_icF X142 hx hby at_25 (tlt (by decide : (1 : Int32) < (7 : Int32))).2.2.2 (rfl : 25 + 3 = 28) ?_
    refine g_aload X142 hx hby at_28 rfl rfl (rfl : 28 + 2 = 30) ?_
    refine g_iconst X142 hx hby (1 : Int32) at_30 (by decide) (rfl : 30 + 1 = 31) ?_
    refine g_iloadN X142 hx hby at_31 rfl (rfl : 31 + 1 = 32) ?_
    refine g_bipush X142 hx hby (8 : Int32) at_32 (by decide) (rfl : 32 + 2 = 34) ?_
    refine g_iushr X142 hx hby at_34 (rfl : 34 + 1 = 35) ?_
    refine g_i2b X142 hx hby at_35 (rfl : 35 + 1 = 36) ?_
    obtain ⟨T143, h143, X143, e143, W143, V143, st143⟩ := a_bastore X142 hx hby hZ e142 (ls := #[.val (.int x0), .val (.int x1), .val (.int x2), .val (.int (7 : Int32)), .val (.ref b141), .unset, .unset, .unset, .unset]) (st := []) (j := (1 : Int32)) (((x1.toUInt32 >>> ((8 : Int32) &&& 31).toUInt32).toInt32).toInt8.toInt32) 1 V142' ⟨by decide, by decide⟩ (by decide) (Nat.le_of_ble_eq_true rfl) at_36
    have Z143 : n0 ≤ h143.size := Nat.le_trans Z142 (Keep.of_wr W143).1
    have N143 := Fr.snoc X143 N142 ge141
    have V143' : Arv Z h143 b141 k141 .byte (7 : Int32) [(.int (x1.toInt8.toInt32)), (.int (((x1.toUInt32 >>> ((8 : Int32) &&& 31).toUInt32).toInt32).toInt8.toInt32)), (.int (0 : Int32)), (.int (0 : Int32)), (.int (0 : Int32)), (.int (0 : Int32)), (.int (0 : Int32))] (.int (0 : Int32)) := by have q := V143; rw [own_nb] at q; exact q
    refine own_go st143 ?_
    show own_Got p e below _ T143 (mkF m 37 #[.val (.int x0), .val (.int x1), .val (.int x2), .val (.int (7 : Int32)), .val (.ref b141), .unset, .unset, .unset, .unset] [])
    refine g_iloadN X143 hx hby at_37 rfl (rfl : 37 + 1 = 38) ?_
    refine g_iconst X143 hx hby (2 : Int32) at_38 (by decide) (rfl : 38 + 1 = 39) ?_
    refine g_icF X143 hx hby at_39 (tlt (by decide : (2 : Int32) < (7 : Int32))).2.2.2 (rfl : 39 + 3 = 42) ?_
    refine g_aload X143 hx hby at_42 rfl rfl (rfl : 42 + 2 = 44) ?_
    refine g_iconst X143 hx hby (2 : Int32) at_44 (by decide) (rfl : 44 + 1 = 45) ?_
    refine g_iloadN X143 hx hby at_45 rfl (rfl : 45 + 1 = 46) ?_
    refine g_bipush X143 hx hby (16 : Int32) at_46 (by decide) (rfl : 46 + 2 = 48) ?_
    refine g_iushr X143 hx hby at_48 (rfl : 48 + 1 = 49) ?_
    refine g_i2b X143 hx hby at_49 (rfl : 49 + 1 = 50) ?_
    obtain ⟨T144, h144, X144, e144, W144, V144, st144⟩ := a_bastore X143 hx hby hZ e143 (ls := #[.val (.int x0), .val (.int x1), .val (.int x2), .val (.int (7 : Int32)), .val (.ref b141), .unset, .unset, .unset, .unset]) (st := []) (j := (2 : Int32)) (((x1.toUInt32 >>> ((16 : Int32) &&& 31).toUInt32).toInt32).toInt8.toInt32) 2 V143' ⟨by decide, by decide⟩ (by decide) (Nat.le_of_ble_eq_true rfl) at_50
    have Z144 : n0 ≤ h144.size := Nat.le_trans Z143 (Keep.of_wr W144).1
    have N144 := Fr.snoc X144 N143 ge141
    have V144' : Arv Z h144 b141 k141 .byte (7 : Int32) [(.int (x1.toInt8.toInt32)), (.int (((x1.toUInt32 >>> ((8 : Int32) &&& 31).toUInt32).toInt32).toInt8.toInt32)), (.int (((x1.toUInt32 >>> ((16 : Int32) &&& 31).toUInt32).toInt32).toInt8.toInt32)), (.int (0 : Int32)), (.int (0 : Int32)), (.int (0 : Int32)), (.int (0 : Int32))] (.int (0 : Int32)) := by have q := V144; rw [own_nb] at q; exact q
    refine own_go st144 ?_
    show own_Got p e below _ T144 (mkF m 51 #[.val (.int x0), .val (.int x1), .val (.int x2), .val (.int (7 : Int32)), .val (.ref b141), .unset, .unset, .unset, .unset] [])
    refine g_iloadN X144 hx hby at_51 rfl (rfl : 51 + 1 = 52) ?_
    refine g_iconst X144 hx hby (3 : Int32) at_52 (by decide) (rfl : 52 + 1 = 53) ?_
    refine g_icF X144 hx hby at_53 (tlt (by decide : (3 : Int32) < (7 : Int32))).2.2.2 (rfl : 53 + 3 = 56) ?_
    refine g_aload X144 hx hby at_56 rfl rfl (rfl : 56 + 2 = 58) ?_
    refine g_iconst X144 hx hby (3 : Int32) at_58 (by decide) (rfl : 58 + 1 = 59) ?_
    refine g_iloadN X144 hx hby at_59 rfl (rfl : 59 + 1 = 60) ?_
    refine g_bipush X144 hx hby (24 : Int32) at_60 (by decide) (rfl : 60 + 2 = 62) ?_
    refine g_iushr X144 hx hby at_62 (rfl : 62 + 1 = 63) ?_
    refine g_i2b X144 hx hby at_63 (rfl : 63 + 1 = 64) ?_
    obtain ⟨T145, h145, X145, e145, W145, V145, st145⟩ := a_bastore X144 hx hby hZ e144 (ls := #[.val (.int x0), .val (.int x1), .val (.int x2), .val (.int (7 : Int32)), .val (.ref b141), .unset, .unset, .unset, .unset]) (st := []) (j := (3 : Int32)) (((x1.toUInt32 >>> ((24 : Int32) &&& 31).toUInt32).toInt32).toInt8.toInt32) 3 V144' ⟨by decide, by decide⟩ (by decide) (Nat.le_of_ble_eq_true rfl) at_64
    have Z145 : n0 ≤ h145.size := Nat.le_trans Z144 (Keep.of_wr W145).1
    have N145 := Fr.snoc X145 N144 ge141
    have V145' : Arv Z h145 b141 k141 .byte (7 : Int32) [(.int (x1.toInt8.toInt32)), (.int (((x1.toUInt32 >>> ((8 : Int32) &&& 31).toUInt32).toInt32).toInt8.toInt32)), (.int (((x1.toUInt32 >>> ((16 : Int32) &&& 31).toUInt32).toInt32).toInt8.toInt32)), (.int (((x1.toUInt32 >>> ((24 : Int32) &&& 31).toUInt32).toInt32).toInt8.toInt32)), (.int (0 : Int32)), (.int (0 : Int32)), (.int (0 : Int32))] (.int (0 : Int32)) := by have q := V145; rw [own_nb] at q; exact q
    refine own_go st145 ?_
    show own_Got p e below _ T145 (mkF m 65 #[.val (.int x0), .val (.int x1), .val (.int x2), .val (.int (7 : Int32)), .val (.ref b141), .unset, .unset, .unset, .unset] [])
    refine g_iloadN X145 hx hby at_65 rfl (rfl : 65 + 1 = 66) ?_
    refine g_iconst X145 hx hby (4 : Int32) at_66 (by decide) (rfl : 66 + 1 = 67) ?_
    refine g_icF X145 hx hby at_67 (tlt (by decide : (4 : Int32) < (7 : Int32))).2.2.2 (rfl : 67 + 3 = 70) ?_
    refine g_aload X145 hx hby at_70 rfl rfl (rfl : 70 + 2 = 72) ?_
    refine g_iconst X145 hx hby (4 : Int32) at_72 (by decide) (rfl : 72 + 1 = 73) ?_
    refine g_iloadN X145 hx hby at_73 rfl (rfl : 73 + 1 = 74) ?_
    refine g_i2b X145 hx hby at_74 (rfl : 74 + 1 = 75) ?_
    obtain ⟨T146, h146, X146, e146, W146, V146, st146⟩ := a_bastore X145 hx hby hZ e145 (ls := #[.val (.int x0), .val (.int x1), .val (.int x2), .val (.int (7 : Int32)), .val (.ref b141), .unset, .unset, .unset, .unset]) (st := []) (j := (4 : Int32)) (x2.toInt8.toInt32) 4 V145' ⟨by decide, by decide⟩ (by decide) (Nat.le_of_ble_eq_true rfl) at_75
    have Z146 : n0 ≤ h146.size := Nat.le_trans Z145 (Keep.of_wr W146).1
    have N146 := Fr.snoc X146 N145 ge141
    have V146' : Arv Z h146 b141 k141 .byte (7 : Int32) [(.int (x1.toInt8.toInt32)), (.int (((x1.toUInt32 >>> ((8 : Int32) &&& 31).toUInt32).toInt32).toInt8.toInt32)), (.int (((x1.toUInt32 >>> ((16 : Int32) &&& 31).toUInt32).toInt32).toInt8.toInt32)), (.int (((x1.toUInt32 >>> ((24 : Int32) &&& 31).toUInt32).toInt32).toInt8.toInt32)), (.int (x2.toInt8.toInt32)), (.int (0 : Int32)), (.int (0 : Int32))] (.int (0 : Int32)) := by have q := V146; rw [own_nb] at q; exact q
    refine own_go st146 ?_
    show own_Got p e below _ T146 (mkF m 76 #[.val (.int x0), .val (.int x1), .val (.int x2), .val (.int (7 : Int32)), .val (.ref b141), .unset, .unset, .unset, .unset] [])
    refine g_iloadN X146 hx hby at_76 rfl (rfl : 76 + 1 = 77) ?_
    refine g_iconst X146 hx hby (5 : Int32) at_77 (by decide) (rfl : 77 + 1 = 78) ?_
    refine g_icF X146 hx hby at_78 (tlt (by decide : (5 : Int32) < (7 : Int32))).2.2.2 (rfl : 78 + 3 = 81) ?_
    refine g_aload X146 hx hby at_81 rfl rfl (rfl : 81 + 2 = 83) ?_
    refine g_iconst X146 hx hby (5 : Int32) at_83 (by decide) (rfl : 83 + 1 = 84) ?_
    refine g_iloadN X146 hx hby at_84 rfl (rfl : 84 + 1 = 85) ?_
    refine g_bipush X146 hx hby (8 : Int32) at_85 (by decide) (rfl : 85 + 2 = 87) ?_
    refine g_iushr X146 hx hby at_87 (rfl : 87 + 1 = 88) ?_
    refine g_i2b X146 hx hby at_88 (rfl : 88 + 1 = 89) ?_
    obtain ⟨T147, h147, X147, e147, W147, V147, st147⟩ := a_bastore X146 hx hby hZ e146 (ls := #[.val (.int x0), .val (.int x1), .val (.int x2), .val (.int (7 : Int32)), .val (.ref b141), .unset, .unset, .unset, .unset]) (st := []) (j := (5 : Int32)) (((x2.toUInt32 >>> ((8 : Int32) &&& 31).toUInt32).toInt32).toInt8.toInt32) 5 V146' ⟨by decide, by decide⟩ (by decide) (Nat.le_of_ble_eq_true rfl) at_89
    have Z147 : n0 ≤ h147.size := Nat.le_trans Z146 (Keep.of_wr W147).1
    have N147 := Fr.snoc X147 N146 ge141
    have V147' : Arv Z h147 b141 k141 .byte (7 : Int32) [(.int (x1.toInt8.toInt32)), (.int (((x1.toUInt32 >>> ((8 : Int32) &&& 31).toUInt32).toInt32).toInt8.toInt32)), (.int (((x1.toUInt32 >>> ((16 : Int32) &&& 31).toUInt32).toInt32).toInt8.toInt32)), (.int (((x1.toUInt32 >>> ((24 : Int32) &&& 31).toUInt32).toInt32).toInt8.toInt32)), (.int (x2.toInt8.toInt32)), (.int (((x2.toUInt32 >>> ((8 : Int32) &&& 31).toUInt32).toInt32).toInt8.toInt32)), (.int (0 : Int32))] (.int (0 : Int32)) := by have q := V147; rw [own_nb] at q; exact q
    refine own_go st147 ?_
    show own_Got p e below _ T147 (mkF m 90 #[.val (.int x0), .val (.int x1), .val (.int x2), .val (.int (7 : Int32)), .val (.ref b141), .unset, .unset, .unset, .unset] [])
    refine g_iloadN X147 hx hby at_90 rfl (rfl : 90 + 1 = 91) ?_
    refine g_bipush X147 hx hby (6 : Int32) at_91 (by decide) (rfl : 91 + 2 = 93) ?_
    refine g_icF X147 hx hby at_93 (tlt (by decide : (6 : Int32) < (7 : Int32))).2.2.2 (rfl : 93 + 3 = 96) ?_
    refine g_aload X147 hx hby at_96 rfl rfl (rfl : 96 + 2 = 98) ?_
    refine g_bipush X147 hx hby (6 : Int32) at_98 (by decide) (rfl : 98 + 2 = 100) ?_
    refine g_iloadN X147 hx hby at_100 rfl (rfl : 100 + 1 = 101) ?_
    refine g_bipush X147 hx hby (16 : Int32) at_101 (by decide) (rfl : 101 + 2 = 103) ?_
    refine g_iushr X147 hx hby at_103 (rfl : 103 + 1 = 104) ?_
    refine g_i2b X147 hx hby at_104 (rfl : 104 + 1 = 105) ?_
    obtain ⟨T148, h148, X148, e148, W148, V148, st148⟩ := a_bastore X147 hx hby hZ e147 (ls := #[.val (.int x0), .val (.int x1), .val (.int x2), .val (.int (7 : Int32)), .val (.ref b141), .unset, .unset, .unset, .unset]) (st := []) (j := (6 : Int32)) (((x2.toUInt32 >>> ((16 : Int32) &&& 31).toUInt32).toInt32).toInt8.toInt32) 6 V147' ⟨by decide, by decide⟩ (by decide) (Nat.le_of_ble_eq_true rfl) at_105
    have Z148 : n0 ≤ h148.size := Nat.le_trans Z147 (Keep.of_wr W148).1
    have N148 := Fr.snoc X148 N147 ge141
    have V148' : Arv Z h148 b141 k141 .byte (7 : Int32) [(.int (x1.toInt8.toInt32)), (.int (((x1.toUInt32 >>> ((8 : Int32) &&& 31).toUInt32).toInt32).toInt8.toInt32)), (.int (((x1.toUInt32 >>> ((16 : Int32) &&& 31).toUInt32).toInt32).toInt8.toInt32)), (.int (((x1.toUInt32 >>> ((24 : Int32) &&& 31).toUInt32).toInt32).toInt8.toInt32)), (.int (x2.toInt8.toInt32)), (.int (((x2.toUInt32 >>> ((8 : Int32) &&& 31).toUInt32).toInt32).toInt8.toInt32)), (.int (((x2.toUInt32 >>> ((16 : Int32) &&& 31).toUInt32).toInt32).toInt8.toInt32))] (.int (0 : Int32)) := by have q := V148; rw [own_nb] at q; exact q
    refine own_go st148 ?_
    show own_Got p e below _ T148 (mkF m 106 #[.val (.int x0), .val (.int x1), .val (.int x2), .val (.int (7 : Int32)), .val (.ref b141), .unset, .unset, .unset, .unset] [])
    refine g_iloadN X148 hx hby at_106 rfl (rfl : 106 + 1 = 107) ?_
    refine g_bipush X148 hx hby (7 : Int32) at_107 (by decide) (rfl : 107 + 2 = 109) ?_
    refine g_icT X148 hx hby at_109 (flt (by decide : ¬ ((7 : Int32) < (7 : Int32)))).2.2.2 (by decide) (pc' := 122) (by decide) ?_
    refine g_iconst X148 hx hby (4 : Int32) at_122 (by decide) (rfl : 122 + 1 = 123) ?_
    have f150 : Exa Z h148 b141 "[B" := (Exa.wr W148 (Exa.wr W147 (Exa.wr W146 (Exa.wr W145 (Exa.wr W144 (Exa.wr W143 (Exa.wr W142 B141)))))))
    obtain ⟨T149, h149, k149, X149, e149, E149, A149, B149, st149⟩ := newPE X148 hx hZ (hw _ (List.mem_of_getElem? (i := 1) rfl)) e148 (g := (mkF m 123 #[.val (.int x0), .val (.int x1), .val (.int x2), .val (.int (7 : Int32)), .val (.ref b141), .unset, .unset, .unset, .unset] [(.int (4 : Int32))])) rfl (hb hby at_123) rfl (by decide) (cap := 4) (by decide) (by decide) (by decide) (by decide) (ad := "[B") (by decide +kernel)
    obtain ⟨b149, g149⟩ : ∃ z, z = h148.size := ⟨_, rfl⟩
    rw [← g149] at A149 B149 st149
    have ne151 : b141 ≠ b149 := Nat.ne_of_lt (Nat.lt_of_lt_of_le (f150).lt (Nat.le_of_eq g149.symm))
    have Z149 : n0 ≤ h149.size := Nat.le_trans Z148 E149.1
    have ge149 : n0 ≤ b149 := Nat.le_trans Z148 (Nat.le_of_eq g149.symm)
    have V149 : Arv Z h149 b149 k149 .byte (4 : Int32) [(.int (0 : Int32)), (.int (0 : Int32)), (.int (0 : Int32)), (.int (0 : Int32))] (.int (0 : Int32)) := (Arv.new A149 (by decide)).pad (pad_rep [] _ 4)
    refine own_go st149 ?_
    show own_Got p e below _ T149 (mkF m 125 #[.val (.int x0), .val (.int x1), .val (.int x2), .val (.int (7 : Int32)), .val (.ref b141), .unset, .unset, .unset, .unset] [(.ref b149)])
    refine g_astore X149 hx hby #[.val (.int x0), .val (.int x1), .val (.int x2), .val (.int (7 : Int32)), .val (.ref b141), .val (.ref b149), .unset, .unset, .unset] at_125 rfl rfl (rfl : 125 + 2 = 127) ?_
    refine g_aload X149 hx hby at_127 rfl rfl (rfl : 127 + 2 = 129) ?_
    refine g_iconst X149 hx hby (0 : Int32) at_129 (by decide) (rfl : 129 + 1 = 130) ?_
    refine g_iloadN X149 hx hby at_130 rfl (rfl : 130 + 1 = 131) ?_
    refine g_i2b X149 hx hby at_131 (rfl : 131 + 1 = 132) ?_
    obtain ⟨T152, h152, X152, e152, W152, V152, st152⟩ := a_bastore X149 hx hby hZ e149 (ls := #[.val (.int x0), .val (.int x1), .val (.int x2), .val (.int (7 : Int32)), .val (.ref b141), .val (.ref b149), .unset, .unset, .unset]) (st := []) (j := (0 : Int32)) (x1.toInt8.toInt32) 0 V149 ⟨by decide, by decide⟩ (by decide) (Nat.le_of_ble_eq_true rfl) at_132
    have Z152 : n0 ≤ h152.size := Nat.le_trans Z149 (Keep.of_wr W152).1
    have N152 := Fr.snoc X152 N148 ge149
    have V152' : Arv Z h152 b149 k149 .byte (4 : Int32) [(.int (x1.toInt8.toInt32)), (.int (0 : Int32)), (.int (0 : Int32)), (.int (0 : Int32))] (.int (0 : Int32)) := by have q := V152; rw [own_nb] at q; exact q
    refine own_go st152 ?_
    show own_Got p e below _ T152 (mkF m 133 #[.val (.int x0), .val (.int x1), .val (.int x2), .val (.int (7 : Int32)), .val (.ref b141), .val (.ref b149), .unset, .unset, .unset] [])
    refine g_aload X152 hx hby at_133 rfl rfl (rfl : 133 + 2 = 135) ?_
    refine g_iconst X152 hx hby (1 : Int32) at_135 (by decide) (rfl : 135 + 1 = 136) ?_
    refine g_iloadN X152 hx hby at_136 rfl (rfl : 136 + 1 = 137) ?_
    refine g_bipush X152 hx hby (8 : Int32) at_137 (by decide) (rfl : 137 + 2 = 139) ?_
    refine g_iushr X152 hx hby at_139 (rfl : 139 + 1 = 140) ?_
    refine g_i2b X152 hx hby at_140 (rfl : 140 + 1 = 141) ?_
    obtain ⟨T153, h153, X153, e153, W153, V153, st153⟩ := a_bastore X152 hx hby hZ e152 (ls := #[.val (.int x0), .val (.int x1), .val (.int x2), .val (.int (7 : Int32)), .val (.ref b141), .val (.ref b149), .unset, .unset, .unset]) (st := []) (j := (1 : Int32)) (((x1.toUInt32 >>> ((8 : Int32) &&& 31).toUInt32).toInt32).toInt8.toInt32) 1 V152' ⟨by decide, by decide⟩ (by decide) (Nat.le_of_ble_eq_true rfl) at_141
    have Z153 : n0 ≤ h153.size := Nat.le_trans Z152 (Keep.of_wr W153).1
    have N153 := Fr.snoc X153 N152 ge149
    have V153' : Arv Z h153 b149 k149 .byte (4 : Int32) [(.int (x1.toInt8.toInt32)), (.int (((x1.toUInt32 >>> ((8 : Int32) &&& 31).toUInt32).toInt32).toInt8.toInt32)), (.int (0 : Int32)), (.int (0 : Int32))] (.int (0 : Int32)) := by have q := V153; rw [own_nb] at q; exact q
    refine own_go st153 ?_
    show own_Got p e below _ T153 (mkF m 142 #[.val (.int x0), .val (.int x1), .val (.int x2), .val (.int (7 : Int32)), .val (.ref b141), .val (.ref b149), .unset, .unset, .unset] [])
    refine g_aload X153 hx hby at_142 rfl rfl (rfl : 142 + 2 = 144) ?_
    refine g_iconst X153 hx hby (2 : Int32) at_144 (by decide) (rfl : 144 + 1 = 145) ?_
    refine g_iloadN X153 hx hby at_145 rfl (rfl : 145 + 1 = 146) ?_
    refine g_bipush X153 hx hby (16 : Int32) at_146 (by decide) (rfl : 146 + 2 = 148) ?_
    refine g_iushr X153 hx hby at_148 (rfl : 148 + 1 = 149) ?_
    refine g_i2b X153 hx hby at_149 (rfl : 149 + 1 = 150) ?_
    obtain ⟨T154, h154, X154, e154, W154, V154, st154⟩ := a_bastore X153 hx hby hZ e153 (ls := #[.val (.int x0), .val (.int x1), .val (.int x2), .val (.int (7 : Int32)), .val (.ref b141), .val (.ref b149), .unset, .unset, .unset]) (st := []) (j := (2 : Int32)) (((x1.toUInt32 >>> ((16 : Int32) &&& 31).toUInt32).toInt32).toInt8.toInt32) 2 V153' ⟨by decide, by decide⟩ (by decide) (Nat.le_of_ble_eq_true rfl) at_150
    have Z154 : n0 ≤ h154.size := Nat.le_trans Z153 (Keep.of_wr W154).1
    have N154 := Fr.snoc X154 N153 ge149
    have V154' : Arv Z h154 b149 k149 .byte (4 : Int32) [(.int (x1.toInt8.toInt32)), (.int (((x1.toUInt32 >>> ((8 : Int32) &&& 31).toUInt32).toInt32).toInt8.toInt32)), (.int (((x1.toUInt32 >>> ((16 : Int32) &&& 31).toUInt32).toInt32).toInt8.toInt32)), (.int (0 : Int32))] (.int (0 : Int32)) := by have q := V154; rw [own_nb] at q; exact q
    refine own_go st154 ?_
    show own_Got p e below _ T154 (mkF m 151 #[.val (.int x0), .val (.int x1), .val (.int x2), .val (.int (7 : Int32)), .val (.ref b141), .val (.ref b149), .unset, .unset, .unset] [])
    refine g_aload X154 hx hby at_151 rfl rfl (rfl : 151 + 2 = 153) ?_
    refine g_iconst X154 hx hby (3 : Int32) at_153 (by decide) (rfl : 153 + 1 = 154) ?_
    refine g_iloadN X154 hx hby at_154 rfl (rfl : 154 + 1 = 155) ?_
    refine g_bipush X154 hx hby (24 : Int32) at_155 (by decide) (rfl : 155 + 2 = 157) ?_
    refine g_iushr X154 hx hby at_157 (rfl : 157 + 1 = 158) ?_
    refine g_i2b X154 hx hby at_158 (rfl : 158 + 1 = 159) ?_
    obtain ⟨T155, h155, X155, e155, W155, V155, st155⟩ := a_bastore X154 hx hby hZ e154 (ls := #[.val (.int x0), .val (.int x1), .val (.int x2), .val (.int (7 : Int32)), .val (.ref b141), .val (.ref b149), .unset, .unset, .unset]) (st := []) (j := (3 : Int32)) (((x1.toUInt32 >>> ((24 : Int32) &&& 31).toUInt32).toInt32).toInt8.toInt32) 3 V154' ⟨by decide, by decide⟩ (by decide) (Nat.le_of_ble_eq_true rfl) at_159
    have Z155 : n0 ≤ h155.size := Nat.le_trans Z154 (Keep.of_wr W155).1
    have N155 := Fr.snoc X155 N154 ge149
    have V155' : Arv Z h155 b149 k149 .byte (4 : Int32) [(.int (x1.toInt8.toInt32)), (.int (((x1.toUInt32 >>> ((8 : Int32) &&& 31).toUInt32).toInt32).toInt8.toInt32)), (.int (((x1.toUInt32 >>> ((16 : Int32) &&& 31).toUInt32).toInt32).toInt8.toInt32)), (.int (((x1.toUInt32 >>> ((24 : Int32) &&& 31).toUInt32).toInt32).toInt8.toInt32))] (.int (0 : Int32)) := by have q := V155; rw [own_nb] at q; exact q
    refine own_go st155 ?_
    show own_Got p e below _ T155 (mkF m 160 #[.val (.int x0), .val (.int x1), .val (.int x2), .val (.int (7 : Int32)), .val (.ref b141), .val (.ref b149), .unset, .unset, .unset] [])
    refine g_aload X155 hx hby at_160 rfl rfl (rfl : 160 + 2 = 162) ?_
    have f157 : Arv Z h155 b141 k141 .byte (7 : Int32) [(.int (x1.toInt8.toInt32)), (.int (((x1.toUInt32 >>> ((8 : Int32) &&& 31).toUInt32).toInt32).toInt8.toInt32)), (.int (((x1.toUInt32 >>> ((16 : Int32) &&& 31).toUInt32).toInt32).toInt8.toInt32)), (.int (((x1.toUInt32 >>> ((24 : Int32) &&& 31).toUInt32).toInt32).toInt8.toInt32)), (.int (x2.toInt8.toInt32)), (.int (((x2.toUInt32 >>> ((8 : Int32) &&& 31).toUInt32).toInt32).toInt8.toInt32)), (.int (((x2.toUInt32 >>> ((16 : Int32) &&& 31).toUInt32).toInt32).toInt8.toInt32))] (.int (0 : Int32)) := (Arv.other (Arv.other (Arv.other (Arv.other (V148'.ext E149) W152 ne151) W153 ne151) W154 ne151) W155 ne151)
    obtain ⟨_, _, ⟨T156, L156, k156, n156⟩, -, X156, ⟨Lc156, hQ156, l156, y156, z156⟩, st156⟩ := Jvm.LawKit.callS X155 hx (y := (⟨"com/example/farshard/farshard/store/Murmur3", "hash32", "([B)I"⟩ : MethodName)) hown (mvT hZ (hw _ (List.mem_of_getElem? (i := 2) rfl))) (mvT hZ (hw _ (List.mem_of_getElem? (i := 3) rfl))) (mvT hZ (hw _ (List.mem_of_getElem? (i := 4) rfl))) (mvT hZ (hw _ (List.mem_of_getElem? (i := 5) rfl))) (by decide) (backOf (W := 0) (rm_hs7 l Z aT hw [] b141 k141 (x1.toInt8.toInt32) (((x1.toUInt32 >>> ((8 : Int32) &&& 31).toUInt32).toInt32).toInt8.toInt32) (((x1.toUInt32 >>> ((16 : Int32) &&& 31).toUInt32).toInt32).toInt8.toInt32) (((x1.toUInt32 >>> ((24 : Int32) &&& 31).toUInt32).toInt32).toInt8.toInt32) (x2.toInt8.toInt32) (((x2.toUInt32 >>> ((8 : Int32) &&& 31).toUInt32).toInt32).toInt8.toInt32) (((x2.toUInt32 >>> ((16 : Int32) &&& 31).toUInt32).toInt32).toInt8.toInt32) h155 n0 Z155 f157) hZ (hw _ (List.mem_of_getElem? (i := 5) rfl)) (hw _ (List.mem_of_getElem? (i := 4) rfl)) (by decide) (by decide)) (g := (mkF m 162 #[.val (.int x0), .val (.int x1), .val (.int x2), .val (.int (7 : Int32)), .val (.ref b141), .val (.ref b149), .unset, .unset, .unset] [(.ref b141)])) rfl (by rw [hml]; rfl) (argsL := [(.ref b141)]) (rest := []) (lenOf pd2 rfl) rfl (by show 2 * 0 + _ ≤ _; exact Nat.le_of_eq rfl) (hb hby at_162) (fun _ _ => ⟨rfl, e155, (by decide : 2 + 0 ≤ _), (by decide : 11 + 0 ≤ _)⟩)
    dsimp only [Pt.U, Pt.locs, Pt.cells, Pt.slots] at X156 l156 y156 z156 st156 hQ156
    subst l156 y156 z156
    obtain ⟨rfl, N156q, eq156⟩ := hQ156
    have N156 := Fr.app N155 N156q
    refine own_go st156 ?_
    show own_Got p e below _ T156 (mkF m 165 #[.val (.int x0), .val (.int x1), .val (.int x2), .val (.int (7 : Int32)), .val (.ref b141), .val (.ref b149), .unset, .unset, .unset] [(.int (F_hs7 (x1.toInt8.toInt32) (((x1.toUInt32 >>> ((8 : Int32) &&& 31).toUInt32).toInt32).toInt8.toInt32) (((x1.toUInt32 >>> ((16 : Int32) &&& 31).toUInt32).toInt32).toInt8.toInt32) (((x1.toUInt32 >>> ((24 : Int32) &&& 31).toUInt32).toInt32).toInt8.toInt32) (x2.toInt8.toInt32) (((x2.toUInt32 >>> ((8 : Int32) &&& 31).toUInt32).toInt32).toInt8.toInt32) (((x2.toUInt32 >>> ((16 : Int32) &&& 31).toUInt32).toInt32).toInt8.toInt32)))])
    refine g_istore X156 hx hby #[.val (.int x0), .val (.int x1), .val (.int x2), .val (.int (7 : Int32)), .val (.ref b141), .val (.ref b149), .val (.int (F_hs7 (x1.toInt8.toInt32) (((x1.toUInt32 >>> ((8 : Int32) &&& 31).toUInt32).toInt32).toInt8.toInt32) (((x1.toUInt32 >>> ((16 : Int32) &&& 31).toUInt32).toInt32).toInt8.toInt32) (((x1.toUInt32 >>> ((24 : Int32) &&& 31).toUInt32).toInt32).toInt8.toInt32) (x2.toInt8.toInt32) (((x2.toUInt32 >>> ((8 : Int32) &&& 31).toUInt32).toInt32).toInt8.toInt32) (((x2.toUInt32 >>> ((16 : Int32) &&& 31).toUInt32).toInt32).toInt8.toInt32))), .unset, .unset] at_165 rfl (rfl : 165 + 2 = 167) ?_
    refine g_iload X156 hx hby at_167 rfl (rfl : 167 + 2 = 169) ?_
    obtain ⟨_, _, ⟨T158, L158, k158, n158⟩, -, X158, ⟨Lc158, hQ158, l158, y158, z158⟩, st158⟩ := Jvm.LawKit.callS X156 hx (y := (⟨"com/example/farshard/farshard/store/Murmur3Hash32PinLaw", "invFmix", "(I)I"⟩ : MethodName)) hown (mvT hZ (hw _ (List.mem_of_getElem? (i := 8) rfl))) (mvT hZ (hw _ (List.mem_of_getElem? (i := 9) rfl))) (mvT hZ (hw _ (List.mem_of_getElem? (i := 10) rfl))) (mvT hZ (hw _ (List.mem_of_getElem? (i := 11) rfl))) (by decide) (backOf (W := 0) (rm_ifx l Z aT hw [] (F_hs7 (x1.toInt8.toInt32) (((x1.toUInt32 >>> ((8 : Int32) &&& 31).toUInt32).toInt32).toInt8.toInt32) (((x1.toUInt32 >>> ((16 : Int32) &&& 31).toUInt32).toInt32).toInt8.toInt32) (((x1.toUInt32 >>> ((24 : Int32) &&& 31).toUInt32).toInt32).toInt8.toInt32) (x2.toInt8.toInt32) (((x2.toUInt32 >>> ((8 : Int32) &&& 31).toUInt32).toInt32).toInt8.toInt32) (((x2.toUInt32 >>> ((16 : Int32) &&& 31).toUInt32).toInt32).toInt8.toInt32)) h155 n0 Z155) hZ (hw _ (List.mem_of_getElem? (i := 11) rfl)) (hw _ (List.mem_of_getElem? (i := 10) rfl)) (by decide) (by decide)) (g := (mkF m 169 #[.val (.int x0), .val (.int x1), .val (.int x2), .val (.int (7 : Int32)), .val (.ref b141), .val (.ref b149), .val (.int (F_hs7 (x1.toInt8.toInt32) (((x1.toUInt32 >>> ((8 : Int32) &&& 31).toUInt32).toInt32).toInt8.toInt32) (((x1.toUInt32 >>> ((16 : Int32) &&& 31).toUInt32).toInt32).toInt8.toInt32) (((x1.toUInt32 >>> ((24 : Int32) &&& 31).toUInt32).toInt32).toInt8.toInt32) (x2.toInt8.toInt32) (((x2.toUInt32 >>> ((8 : Int32) &&& 31).toUInt32).toInt32).toInt8.toInt32) (((x2.toUInt32 >>> ((16 : Int32) &&& 31).toUInt32).toInt32).toInt8.toInt32))), .unset, .unset] [(.int (F_hs7 (x1.toInt8.toInt32) (((x1.toUInt32 >>> ((8 : Int32) &&& 31).toUInt32).toInt32).toInt8.toInt32) (((x1.toUInt32 >>> ((16 : Int32) &&& 31).toUInt32).toInt32).toInt8.toInt32) (((x1.toUInt32 >>> ((24 : Int32) &&& 31).toUInt32).toInt32).toInt8.toInt32) (x2.toInt8.toInt32) (((x2.toUInt32 >>> ((8 : Int32) &&& 31).toUInt32).toInt32).toInt8.toInt32) (((x2.toUInt32 >>> ((16 : Int32) &&& 31).toUInt32).toInt32).toInt8.toInt32)))])) rfl (by rw [hml]; rfl) (argsL := [(.int (F_hs7 (x1.toInt8.toInt32) (((x1.toUInt32 >>> ((8 : Int32) &&& 31).toUInt32).toInt32).toInt8.toInt32) (((x1.toUInt32 >>> ((16 : Int32) &&& 31).toUInt32).toInt32).toInt8.toInt32) (((x1.toUInt32 >>> ((24 : Int32) &&& 31).toUInt32).toInt32).toInt8.toInt32) (x2.toInt8.toInt32) (((x2.toUInt32 >>> ((8 : Int32) &&& 31).toUInt32).toInt32).toInt8.toInt32) (((x2.toUInt32 >>> ((16 : Int32) &&& 31).toUInt32).toInt32).toInt8.toInt32)))]) (rest := []) (lenOf pd1 rfl) rfl (by show 2 * 0 + _ ≤ _; exact Nat.le_of_eq rfl) (hb hby at_169) (fun _ _ => ⟨rfl, eq156, (by decide : 2 + 0 ≤ _), (by decide : 11 + 0 ≤ _)⟩)
    dsimp only [Pt.U, Pt.locs, Pt.cells, Pt.slots] at X158 l158 y158 z158 st158 hQ158
    subst l158 y158 z158
    obtain ⟨rfl, N158q, eq158⟩ := hQ158
    have N158 := Fr.app N156 N158q
    refine own_go st158 ?_
    show own_Got p e below _ T158 (mkF m 172 #[.val (.int x0), .val (.int x1), .val (.int x2), .val (.int (7 : Int32)), .val (.ref b141), .val (.ref b149), .val (.int (F_hs7 (x1.toInt8.toInt32) (((x1.toUInt32 >>> ((8 : Int32) &&& 31).toUInt32).toInt32).toInt8.toInt32) (((x1.toUInt32 >>> ((16 : Int32) &&& 31).toUInt32).toInt32).toInt8.toInt32) (((x1.toUInt32 >>> ((24 : Int32) &&& 31).toUInt32).toInt32).toInt8.toInt32) (x2.toInt8.toInt32) (((x2.toUInt32 >>> ((8 : Int32) &&& 31).toUInt32).toInt32).toInt8.toInt32) (((x2.toUInt32 >>> ((16 : Int32) &&& 31).toUInt32).toInt32).toInt8.toInt32))), .unset, .unset] [(.int (F_ifx (F_hs7 (x1.toInt8.toInt32) (((x1.toUInt32 >>> ((8 : Int32) &&& 31).toUInt32).toInt32).toInt8.toInt32) (((x1.toUInt32 >>> ((16 : Int32) &&& 31).toUInt32).toInt32).toInt8.toInt32) (((x1.toUInt32 >>> ((24 : Int32) &&& 31).toUInt32).toInt32).toInt8.toInt32) (x2.toInt8.toInt32) (((x2.toUInt32 >>> ((8 : Int32) &&& 31).toUInt32).toInt32).toInt8.toInt32) (((x2.toUInt32 >>> ((16 : Int32) &&& 31).toUInt32).toInt32).toInt8.toInt32))))])
    refine g_iloadN X158 hx hby at_172 rfl (rfl : 172 + 1 = 173) ?_
    refine g_ixor X158 hx hby at_173 (rfl : 173 + 1 = 174) ?_
    refine g_istore X158 hx hby #[.val (.int x0), .val (.int x1), .val (.int x2), .val (.int (7 : Int32)), .val (.ref b141), .val (.ref b149), .val (.int (F_hs7 (x1.toInt8.toInt32) (((x1.toUInt32 >>> ((8 : Int32) &&& 31).toUInt32).toInt32).toInt8.toInt32) (((x1.toUInt32 >>> ((16 : Int32) &&& 31).toUInt32).toInt32).toInt8.toInt32) (((x1.toUInt32 >>> ((24 : Int32) &&& 31).toUInt32).toInt32).toInt8.toInt32) (x2.toInt8.toInt32) (((x2.toUInt32 >>> ((8 : Int32) &&& 31).toUInt32).toInt32).toInt8.toInt32) (((x2.toUInt32 >>> ((16 : Int32) &&& 31).toUInt32).toInt32).toInt8.toInt32))), .val (.int ((F_ifx (F_hs7 (x1.toInt8.toInt32) (((x1.toUInt32 >>> ((8 : Int32) &&& 31).toUInt32).toInt32).toInt8.toInt32) (((x1.toUInt32 >>> ((16 : Int32) &&& 31).toUInt32).toInt32).toInt8.toInt32) (((x1.toUInt32 >>> ((24 : Int32) &&& 31).toUInt32).toInt32).toInt8.toInt32) (x2.toInt8.toInt32) (((x2.toUInt32 >>> ((8 : Int32) &&& 31).toUInt32).toInt32).toInt8.toInt32) (((x2.toUInt32 >>> ((16 : Int32) &&& 31).toUInt32).toInt32).toInt8.toInt32))) ^^^ (7 : Int32))), .unset] at_174 rfl (rfl : 174 + 2 = 176) ?_
    refine g_iloadN X158 hx hby at_176 rfl (rfl : 176 + 1 = 177) ?_
    refine g_ifT X158 hx hby at_177 ((if0 _ _).trans (feq (by decide : ¬ ((7 : Int32) = (0 : Int32)))).2) (by decide) (pc' := 191) (by decide) ?_
    refine g_iloadN X158 hx hby at_191 rfl (rfl : 191 + 1 = 192) ?_
    refine g_iconst X158 hx hby (4 : Int32) at_192 (by decide) (rfl : 192 + 1 = 193) ?_
    refine g_icT X158 hx hby at_193 (flt (by decide : ¬ ((7 : Int32) < (4 : Int32)))).2.1 (by decide) (pc' := 220) (by decide) ?_
    refine g_iloadN X158 hx hby at_220 rfl (rfl : 220 + 1 = 221) ?_
    refine g_iconst X158 hx hby (4 : Int32) at_221 (by decide) (rfl : 221 + 1 = 222) ?_
    refine g_icT X158 hx hby at_222 (feq (by decide : ¬ ((7 : Int32) = (4 : Int32)))).2 (by decide) (pc' := 243) (by decide) ?_
    refine g_aload X158 hx hby at_243 rfl rfl (rfl : 243 + 2 = 245) ?_
    obtain ⟨_, _, ⟨T159, L159, k159, n159⟩, -, X159, ⟨Lc159, hQ159, l159, y159, z159⟩, st159⟩ := Jvm.LawKit.callS X158 hx (y := (⟨"com/example/farshard/farshard/store/Murmur3", "hash32", "([B)I"⟩ : MethodName)) hown (mvT hZ (hw _ (List.mem_of_getElem? (i := 2) rfl))) (mvT hZ (hw _ (List.mem_of_getElem? (i := 3) rfl))) (mvT hZ (hw _ (List.mem_of_getElem? (i := 4) rfl))) (mvT hZ (hw _ (List.mem_of_getElem? (i := 5) rfl))) (by decide) (backOf (W := 0) (rm_hs4 l Z aT hw [] b149 k149 (x1.toInt8.toInt32) (((x1.toUInt32 >>> ((8 : Int32) &&& 31).toUInt32).toInt32).toInt8.toInt32) (((x1.toUInt32 >>> ((16 : Int32) &&& 31).toUInt32).toInt32).toInt8.toInt32) (((x1.toUInt32 >>> ((24 : Int32) &&& 31).toUInt32).toInt32).toInt8.toInt32) h155 n0 Z155 V155') hZ (hw _ (List.mem_of_getElem? (i := 5) rfl)) (hw _ (List.mem_of_getElem? (i := 4) rfl)) (by decide) (by decide)) (g := (mkF m 245 #[.val (.int x0), .val (.int x1), .val (.int x2), .val (.int (7 : Int32)), .val (.ref b141), .val (.ref b149), .val (.int (F_hs7 (x1.toInt8.toInt32) (((x1.toUInt32 >>> ((8 : Int32) &&& 31).toUInt32).toInt32).toInt8.toInt32) (((x1.toUInt32 >>> ((16 : Int32) &&& 31).toUInt32).toInt32).toInt8.toInt32) (((x1.toUInt32 >>> ((24 : Int32) &&& 31).toUInt32).toInt32).toInt8.toInt32) (x2.toInt8.toInt32) (((x2.toUInt32 >>> ((8 : Int32) &&& 31).toUInt32).toInt32).toInt8.toInt32) (((x2.toUInt32 >>> ((16 : Int32) &&& 31).toUInt32).toInt32).toInt8.toInt32))), .val (.int ((F_ifx (F_hs7 (x1.toInt8.toInt32) (((x1.toUInt32 >>> ((8 : Int32) &&& 31).toUInt32).toInt32).toInt8.toInt32) (((x1.toUInt32 >>> ((16 : Int32) &&& 31).toUInt32).toInt32).toInt8.toInt32) (((x1.toUInt32 >>> ((24 : Int32) &&& 31).toUInt32).toInt32).toInt8.toInt32) (x2.toInt8.toInt32) (((x2.toUInt32 >>> ((8 : Int32) &&& 31).toUInt32).toInt32).toInt8.toInt32) (((x2.toUInt32 >>> ((16 : Int32) &&& 31).toUInt32).toInt32).toInt8.toInt32))) ^^^ (7 : Int32))), .unset] [(.ref b149)])) rfl (by rw [hml]; rfl) (argsL := [(.ref b149)]) (rest := []) (lenOf pd2 rfl) rfl (by show 2 * 0 + _ ≤ _; exact Nat.le_of_eq rfl) (hb hby at_245) (fun _ _ => ⟨rfl, eq158, (by decide : 2 + 0 ≤ _), (by decide : 11 + 0 ≤ _)⟩)
    dsimp only [Pt.U, Pt.locs, Pt.cells, Pt.slots] at X159 l159 y159 z159 st159 hQ159
    subst l159 y159 z159
    obtain ⟨rfl, N159q, eq159⟩ := hQ159
    have N159 := Fr.app N158 N159q
    refine own_go st159 ?_
    show own_Got p e below _ T159 (mkF m 248 #[.val (.int x0), .val (.int x1), .val (.int x2), .val (.int (7 : Int32)), .val (.ref b141), .val (.ref b149), .val (.int (F_hs7 (x1.toInt8.toInt32) (((x1.toUInt32 >>> ((8 : Int32) &&& 31).toUInt32).toInt32).toInt8.toInt32) (((x1.toUInt32 >>> ((16 : Int32) &&& 31).toUInt32).toInt32).toInt8.toInt32) (((x1.toUInt32 >>> ((24 : Int32) &&& 31).toUInt32).toInt32).toInt8.toInt32) (x2.toInt8.toInt32) (((x2.toUInt32 >>> ((8 : Int32) &&& 31).toUInt32).toInt32).toInt8.toInt32) (((x2.toUInt32 >>> ((16 : Int32) &&& 31).toUInt32).toInt32).toInt8.toInt32))), .val (.int ((F_ifx (F_hs7 (x1.toInt8.toInt32) (((x1.toUInt32 >>> ((8 : Int32) &&& 31).toUInt32).toInt32).toInt8.toInt32) (((x1.toUInt32 >>> ((16 : Int32) &&& 31).toUInt32).toInt32).toInt8.toInt32) (((x1.toUInt32 >>> ((24 : Int32) &&& 31).toUInt32).toInt32).toInt8.toInt32) (x2.toInt8.toInt32) (((x2.toUInt32 >>> ((8 : Int32) &&& 31).toUInt32).toInt32).toInt8.toInt32) (((x2.toUInt32 >>> ((16 : Int32) &&& 31).toUInt32).toInt32).toInt8.toInt32))) ^^^ (7 : Int32))), .unset] [(.int (F_hs4 (x1.toInt8.toInt32) (((x1.toUInt32 >>> ((8 : Int32) &&& 31).toUInt32).toInt32).toInt8.toInt32) (((x1.toUInt32 >>> ((16 : Int32) &&& 31).toUInt32).toInt32).toInt8.toInt32) (((x1.toUInt32 >>> ((24 : Int32) &&& 31).toUInt32).toInt32).toInt8.toInt32)))])
    obtain ⟨_, _, ⟨T160, L160, k160, n160⟩, -, X160, ⟨Lc160, hQ160, l160, y160, z160⟩, st160⟩ := Jvm.LawKit.callS X159 hx (y := (⟨"com/example/farshard/farshard/store/Murmur3Hash32PinLaw", "invFmix", "(I)I"⟩ : MethodName)) hown (mvT hZ (hw _ (List.mem_of_getElem? (i := 8) rfl))) (mvT hZ (hw _ (List.mem_of_getElem? (i := 9) rfl))) (mvT hZ (hw _ (List.mem_of_getElem? (i := 10) rfl))) (mvT hZ (hw _ (List.mem_of_getElem? (i := 11) rfl))) (by decide) (backOf (W := 0) (rm_ifx l Z aT hw [] (F_hs4 (x1.toInt8.toInt32) (((x1.toUInt32 >>> ((8 : Int32) &&& 31).toUInt32).toInt32).toInt8.toInt32) (((x1.toUInt32 >>> ((16 : Int32) &&& 31).toUInt32).toInt32).toInt8.toInt32) (((x1.toUInt32 >>> ((24 : Int32) &&& 31).toUInt32).toInt32).toInt8.toInt32)) h155 n0 Z155) hZ (hw _ (List.mem_of_getElem? (i := 11) rfl)) (hw _ (List.mem_of_getElem? (i := 10) rfl)) (by decide) (by decide)) (g := (mkF m 248 #[.val (.int x0), .val (.int x1), .val (.int x2), .val (.int (7 : Int32)), .val (.ref b141), .val (.ref b149), .val (.int (F_hs7 (x1.toInt8.toInt32) (((x1.toUInt32 >>> ((8 : Int32) &&& 31).toUInt32).toInt32).toInt8.toInt32) (((x1.toUInt32 >>> ((16 : Int32) &&& 31).toUInt32).toInt32).toInt8.toInt32) (((x1.toUInt32 >>> ((24 : Int32) &&& 31).toUInt32).toInt32).toInt8.toInt32) (x2.toInt8.toInt32) (((x2.toUInt32 >>> ((8 : Int32) &&& 31).toUInt32).toInt32).toInt8.toInt32) (((x2.toUInt32 >>> ((16 : Int32) &&& 31).toUInt32).toInt32).toInt8.toInt32))), .val (.int ((F_ifx (F_hs7 (x1.toInt8.toInt32) (((x1.toUInt32 >>> ((8 : Int32) &&& 31).toUInt32).toInt32).toInt8.toInt32) (((x1.toUInt32 >>> ((16 : Int32) &&& 31).toUInt32).toInt32).toInt8.toInt32) (((x1.toUInt32 >>> ((24 : Int32) &&& 31).toUInt32).toInt32).toInt8.toInt32) (x2.toInt8.toInt32) (((x2.toUInt32 >>> ((8 : Int32) &&& 31).toUInt32).toInt32).toInt8.toInt32) (((x2.toUInt32 >>> ((16 : Int32) &&& 31).toUInt32).toInt32).toInt8.toInt32))) ^^^ (7 : Int32))), .unset] [(.int (F_hs4 (x1.toInt8.toInt32) (((x1.toUInt32 >>> ((8 : Int32) &&& 31).toUInt32).toInt32).toInt8.toInt32) (((x1.toUInt32 >>> ((16 : Int32) &&& 31).toUInt32).toInt32).toInt8.toInt32) (((x1.toUInt32 >>> ((24 : Int32) &&& 31).toUInt32).toInt32).toInt8.toInt32)))])) rfl (by rw [hml]; rfl) (argsL := [(.int (F_hs4 (x1.toInt8.toInt32) (((x1.toUInt32 >>> ((8 : Int32) &&& 31).toUInt32).toInt32).toInt8.toInt32) (((x1.toUInt32 >>> ((16 : Int32) &&& 31).toUInt32).toInt32).toInt8.toInt32) (((x1.toUInt32 >>> ((24 : Int32) &&& 31).toUInt32).toInt32).toInt8.toInt32)))]) (rest := []) (lenOf pd1 rfl) rfl (by show 2 * 0 + _ ≤ _; exact Nat.le_of_eq rfl) (hb hby at_248) (fun _ _ => ⟨rfl, eq159, (by decide : 2 + 0 ≤ _), (by decide : 11 + 0 ≤ _)⟩)
    dsimp only [Pt.U, Pt.locs, Pt.cells, Pt.slots] at X160 l160 y160 z160 st160 hQ160
    subst l160 y160 z160
    obtain ⟨rfl, N160q, eq160⟩ := hQ160
    have N160 := Fr.app N159 N160q
    refine own_go st160 ?_
    show own_Got p e below _ T160 (mkF m 251 #[.val (.int x0), .val (.int x1), .val (.int x2), .val (.int (7 : Int32)), .val (.ref b141), .val (.ref b149), .val (.int (F_hs7 (x1.toInt8.toInt32) (((x1.toUInt32 >>> ((8 : Int32) &&& 31).toUInt32).toInt32).toInt8.toInt32) (((x1.toUInt32 >>> ((16 : Int32) &&& 31).toUInt32).toInt32).toInt8.toInt32) (((x1.toUInt32 >>> ((24 : Int32) &&& 31).toUInt32).toInt32).toInt8.toInt32) (x2.toInt8.toInt32) (((x2.toUInt32 >>> ((8 : Int32) &&& 31).toUInt32).toInt32).toInt8.toInt32) (((x2.toUInt32 >>> ((16 : Int32) &&& 31).toUInt32).toInt32).toInt8.toInt32))), .val (.int ((F_ifx (F_hs7 (x1.toInt8.toInt32) (((x1.toUInt32 >>> ((8 : Int32) &&& 31).toUInt32).toInt32).toInt8.toInt32) (((x1.toUInt32 >>> ((16 : Int32) &&& 31).toUInt32).toInt32).toInt8.toInt32) (((x1.toUInt32 >>> ((24 : Int32) &&& 31).toUInt32).toInt32).toInt8.toInt32) (x2.toInt8.toInt32) (((x2.toUInt32 >>> ((8 : Int32) &&& 31).toUInt32).toInt32).toInt8.toInt32) (((x2.toUInt32 >>> ((16 : Int32) &&& 31).toUInt32).toInt32).toInt8.toInt32))) ^^^ (7 : Int32))), .unset] [(.int (F_ifx (F_hs4 (x1.toInt8.toInt32) (((x1.toUInt32 >>> ((8 : Int32) &&& 31).toUInt32).toInt32).toInt8.toInt32) (((x1.toUInt32 >>> ((16 : Int32) &&& 31).toUInt32).toInt32).toInt8.toInt32) (((x1.toUInt32 >>> ((24 : Int32) &&& 31).toUInt32).toInt32).toInt8.toInt32))))])
    refine g_iconst X160 hx hby (4 : Int32) at_251 (by decide) (rfl : 251 + 1 = 252) ?_
    refine g_ixor X160 hx hby at_252 (rfl : 252 + 1 = 253) ?_
    refine g_istore X160 hx hby #[.val (.int x0), .val (.int x1), .val (.int x2), .val (.int (7 : Int32)), .val (.ref b141), .val (.ref b149), .val (.int (F_hs7 (x1.toInt8.toInt32) (((x1.toUInt32 >>> ((8 : Int32) &&& 31).toUInt32).toInt32).toInt8.toInt32) (((x1.toUInt32 >>> ((16 : Int32) &&& 31).toUInt32).toInt32).toInt8.toInt32) (((x1.toUInt32 >>> ((24 : Int32) &&& 31).toUInt32).toInt32).toInt8.toInt32) (x2.toInt8.toInt32) (((x2.toUInt32 >>> ((8 : Int32) &&& 31).toUInt32).toInt32).toInt8.toInt32) (((x2.toUInt32 >>> ((16 : Int32) &&& 31).toUInt32).toInt32).toInt8.toInt32))), .val (.int ((F_ifx (F_hs7 (x1.toInt8.toInt32) (((x1.toUInt32 >>> ((8 : Int32) &&& 31).toUInt32).toInt32).toInt8.toInt32) (((x1.toUInt32 >>> ((16 : Int32) &&& 31).toUInt32).toInt32).toInt8.toInt32) (((x1.toUInt32 >>> ((24 : Int32) &&& 31).toUInt32).toInt32).toInt8.toInt32) (x2.toInt8.toInt32) (((x2.toUInt32 >>> ((8 : Int32) &&& 31).toUInt32).toInt32).toInt8.toInt32) (((x2.toUInt32 >>> ((16 : Int32) &&& 31).toUInt32).toInt32).toInt8.toInt32))) ^^^ (7 : Int32))), .val (.int ((F_ifx (F_hs4 (x1.toInt8.toInt32) (((x1.toUInt32 >>> ((8 : Int32) &&& 31).toUInt32).toInt32).toInt8.toInt32) (((x1.toUInt32 >>> ((16 : Int32) &&& 31).toUInt32).toInt32).toInt8.toInt32) (((x1.toUInt32 >>> ((24 : Int32) &&& 31).toUInt32).toInt32).toInt8.toInt32))) ^^^ (4 : Int32)))] at_253 rfl (rfl : 253 + 2 = 255) ?_
    refine g_iloadN X160 hx hby at_255 rfl (rfl : 255 + 1 = 256) ?_
    refine g_bipush X160 hx hby (8 : Int32) at_256 (by decide) (rfl : 256 + 2 = 258) ?_
    refine g_icF X160 hx hby at_258 (tlt (by decide : (7 : Int32) < (8 : Int32))).2.1 (rfl : 258 + 3 = 261) ?_
    refine g_iload X160 hx hby at_261 rfl (rfl : 261 + 2 = 263) ?_
    refine g_iload X160 hx hby at_263 rfl (rfl : 263 + 2 = 265) ?_
    refine g_ixor X160 hx hby at_265 (rfl : 265 + 1 = 266) ?_
    obtain ⟨_, _, ⟨T161, L161, k161, n161⟩, -, X161, ⟨Lc161, hQ161, l161, y161, z161⟩, st161⟩ := Jvm.LawKit.callS X160 hx (y := (⟨"com/example/farshard/farshard/store/Murmur3Hash32PinLaw", "invMix", "(I)I"⟩ : MethodName)) hown (mvT hZ (hw _ (List.mem_of_getElem? (i := 26) rfl))) (mvT hZ (hw _ (List.mem_of_getElem? (i := 27) rfl))) (mvT hZ (hw _ (List.mem_of_getElem? (i := 10) rfl))) (mvT hZ (hw _ (List.mem_of_getElem? (i := 28) rfl))) (by decide) (backOf (W := 0) (rm_imx l Z aT hw [] (((F_ifx (F_hs7 (x1.toInt8.toInt32) (((x1.toUInt32 >>> ((8 : Int32) &&& 31).toUInt32).toInt32).toInt8.toInt32) (((x1.toUInt32 >>> ((16 : Int32) &&& 31).toUInt32).toInt32).toInt8.toInt32) (((x1.toUInt32 >>> ((24 : Int32) &&& 31).toUInt32).toInt32).toInt8.toInt32) (x2.toInt8.toInt32) (((x2.toUInt32 >>> ((8 : Int32) &&& 31).toUInt32).toInt32).toInt8.toInt32) (((x2.toUInt32 >>> ((16 : Int32) &&& 31).toUInt32).toInt32).toInt8.toInt32))) ^^^ (7 : Int32)) ^^^ ((F_ifx (F_hs4 (x1.toInt8.toInt32) (((x1.toUInt32 >>> ((8 : Int32) &&& 31).toUInt32).toInt32).toInt8.toInt32) (((x1.toUInt32 >>> ((16 : Int32) &&& 31).toUInt32).toInt32).toInt8.toInt32) (((x1.toUInt32 >>> ((24 : Int32) &&& 31).toUInt32).toInt32).toInt8.toInt32))) ^^^ (4 : Int32))) h155 n0 Z155) hZ (hw _ (List.mem_of_getElem? (i := 28) rfl)) (hw _ (List.mem_of_getElem? (i := 10) rfl)) (by decide) (by decide)) (g := (mkF m 266 #[.val (.int x0), .val (.int x1), .val (.int x2), .val (.int (7 : Int32)), .val (.ref b141), .val (.ref b149), .val (.int (F_hs7 (x1.toInt8.toInt32) (((x1.toUInt32 >>> ((8 : Int32) &&& 31).toUInt32).toInt32).toInt8.toInt32) (((x1.toUInt32 >>> ((16 : Int32) &&& 31).toUInt32).toInt32).toInt8.toInt32) (((x1.toUInt32 >>> ((24 : Int32) &&& 31).toUInt32).toInt32).toInt8.toInt32) (x2.toInt8.toInt32) (((x2.toUInt32 >>> ((8 : Int32) &&& 31).toUInt32).toInt32).toInt8.toInt32) (((x2.toUInt32 >>> ((16 : Int32) &&& 31).toUInt32).toInt32).toInt8.toInt32))), .val (.int ((F_ifx (F_hs7 (x1.toInt8.toInt32) (((x1.toUInt32 >>> ((8 : Int32) &&& 31).toUInt32).toInt32).toInt8.toInt32) (((x1.toUInt32 >>> ((16 : Int32) &&& 31).toUInt32).toInt32).toInt8.toInt32) (((x1.toUInt32 >>> ((24 : Int32) &&& 31).toUInt32).toInt32).toInt8.toInt32) (x2.toInt8.toInt32) (((x2.toUInt32 >>> ((8 : Int32) &&& 31).toUInt32).toInt32).toInt8.toInt32) (((x2.toUInt32 >>> ((16 : Int32) &&& 31).toUInt32).toInt32).toInt8.toInt32))) ^^^ (7 : Int32))), .val (.int ((F_ifx (F_hs4 (x1.toInt8.toInt32) (((x1.toUInt32 >>> ((8 : Int32) &&& 31).toUInt32).toInt32).toInt8.toInt32) (((x1.toUInt32 >>> ((16 : Int32) &&& 31).toUInt32).toInt32).toInt8.toInt32) (((x1.toUInt32 >>> ((24 : Int32) &&& 31).toUInt32).toInt32).toInt8.toInt32))) ^^^ (4 : Int32)))] [(.int (((F_ifx (F_hs7 (x1.toInt8.toInt32) (((x1.toUInt32 >>> ((8 : Int32) &&& 31).toUInt32).toInt32).toInt8.toInt32) (((x1.toUInt32 >>> ((16 : Int32) &&& 31).toUInt32).toInt32).toInt8.toInt32) (((x1.toUInt32 >>> ((24 : Int32) &&& 31).toUInt32).toInt32).toInt8.toInt32) (x2.toInt8.toInt32) (((x2.toUInt32 >>> ((8 : Int32) &&& 31).toUInt32).toInt32).toInt8.toInt32) (((x2.toUInt32 >>> ((16 : Int32) &&& 31).toUInt32).toInt32).toInt8.toInt32))) ^^^ (7 : Int32)) ^^^ ((F_ifx (F_hs4 (x1.toInt8.toInt32) (((x1.toUInt32 >>> ((8 : Int32) &&& 31).toUInt32).toInt32).toInt8.toInt32) (((x1.toUInt32 >>> ((16 : Int32) &&& 31).toUInt32).toInt32).toInt8.toInt32) (((x1.toUInt32 >>> ((24 : Int32) &&& 31).toUInt32).toInt32).toInt8.toInt32))) ^^^ (4 : Int32))))])) rfl (by rw [hml]; rfl) (argsL := [(.int (((F_ifx (F_hs7 (x1.toInt8.toInt32) (((x1.toUInt32 >>> ((8 : Int32) &&& 31).toUInt32).toInt32).toInt8.toInt32) (((x1.toUInt32 >>> ((16 : Int32) &&& 31).toUInt32).toInt32).toInt8.toInt32) (((x1.toUInt32 >>> ((24 : Int32) &&& 31).toUInt32).toInt32).toInt8.toInt32) (x2.toInt8.toInt32) (((x2.toUInt32 >>> ((8 : Int32) &&& 31).toUInt32).toInt32).toInt8.toInt32) (((x2.toUInt32 >>> ((16 : Int32) &&& 31).toUInt32).toInt32).toInt8.toInt32))) ^^^ (7 : Int32)) ^^^ ((F_ifx (F_hs4 (x1.toInt8.toInt32) (((x1.toUInt32 >>> ((8 : Int32) &&& 31).toUInt32).toInt32).toInt8.toInt32) (((x1.toUInt32 >>> ((16 : Int32) &&& 31).toUInt32).toInt32).toInt8.toInt32) (((x1.toUInt32 >>> ((24 : Int32) &&& 31).toUInt32).toInt32).toInt8.toInt32))) ^^^ (4 : Int32))))]) (rest := []) (lenOf pd1 rfl) rfl (by show 2 * 0 + _ ≤ _; exact Nat.le_of_eq rfl) (hb hby at_266) (fun _ _ => ⟨rfl, eq160, (by decide : 2 + 0 ≤ _), (by decide : 11 + 0 ≤ _)⟩)
    dsimp only [Pt.U, Pt.locs, Pt.cells, Pt.slots] at X161 l161 y161 z161 st161 hQ161
    subst l161 y161 z161
    obtain ⟨rfl, N161q, eq161⟩ := hQ161
    have N161 := Fr.app N160 N161q
    refine own_go st161 ?_
    show own_Got p e below _ T161 (mkF m 269 #[.val (.int x0), .val (.int x1), .val (.int x2), .val (.int (7 : Int32)), .val (.ref b141), .val (.ref b149), .val (.int (F_hs7 (x1.toInt8.toInt32) (((x1.toUInt32 >>> ((8 : Int32) &&& 31).toUInt32).toInt32).toInt8.toInt32) (((x1.toUInt32 >>> ((16 : Int32) &&& 31).toUInt32).toInt32).toInt8.toInt32) (((x1.toUInt32 >>> ((24 : Int32) &&& 31).toUInt32).toInt32).toInt8.toInt32) (x2.toInt8.toInt32) (((x2.toUInt32 >>> ((8 : Int32) &&& 31).toUInt32).toInt32).toInt8.toInt32) (((x2.toUInt32 >>> ((16 : Int32) &&& 31).toUInt32).toInt32).toInt8.toInt32))), .val (.int ((F_ifx (F_hs7 (x1.toInt8.toInt32) (((x1.toUInt32 >>> ((8 : Int32) &&& 31).toUInt32).toInt32).toInt8.toInt32) (((x1.toUInt32 >>> ((16 : Int32) &&& 31).toUInt32).toInt32).toInt8.toInt32) (((x1.toUInt32 >>> ((24 : Int32) &&& 31).toUInt32).toInt32).toInt8.toInt32) (x2.toInt8.toInt32) (((x2.toUInt32 >>> ((8 : Int32) &&& 31).toUInt32).toInt32).toInt8.toInt32) (((x2.toUInt32 >>> ((16 : Int32) &&& 31).toUInt32).toInt32).toInt8.toInt32))) ^^^ (7 : Int32))), .val (.int ((F_ifx (F_hs4 (x1.toInt8.toInt32) (((x1.toUInt32 >>> ((8 : Int32) &&& 31).toUInt32).toInt32).toInt8.toInt32) (((x1.toUInt32 >>> ((16 : Int32) &&& 31).toUInt32).toInt32).toInt8.toInt32) (((x1.toUInt32 >>> ((24 : Int32) &&& 31).toUInt32).toInt32).toInt8.toInt32))) ^^^ (4 : Int32)))] [(.int (F_imx (((F_ifx (F_hs7 (x1.toInt8.toInt32) (((x1.toUInt32 >>> ((8 : Int32) &&& 31).toUInt32).toInt32).toInt8.toInt32) (((x1.toUInt32 >>> ((16 : Int32) &&& 31).toUInt32).toInt32).toInt8.toInt32) (((x1.toUInt32 >>> ((24 : Int32) &&& 31).toUInt32).toInt32).toInt8.toInt32) (x2.toInt8.toInt32) (((x2.toUInt32 >>> ((8 : Int32) &&& 31).toUInt32).toInt32).toInt8.toInt32) (((x2.toUInt32 >>> ((16 : Int32) &&& 31).toUInt32).toInt32).toInt8.toInt32))) ^^^ (7 : Int32)) ^^^ ((F_ifx (F_hs4 (x1.toInt8.toInt32) (((x1.toUInt32 >>> ((8 : Int32) &&& 31).toUInt32).toInt32).toInt8.toInt32) (((x1.toUInt32 >>> ((16 : Int32) &&& 31).toUInt32).toInt32).toInt8.toInt32) (((x1.toUInt32 >>> ((24 : Int32) &&& 31).toUInt32).toInt32).toInt8.toInt32))) ^^^ (4 : Int32)))))])
    refine g_iloadN X161 hx hby at_269 rfl (rfl : 269 + 1 = 270) ?_
    refine g_iconst X161 hx hby (1 : Int32) at_270 (by decide) (rfl : 270 + 1 = 271) ?_
    refine g_bipush X161 hx hby (8 : Int32) at_271 (by decide) (rfl : 271 + 2 = 273) ?_
    refine g_iloadN X161 hx hby at_273 rfl (rfl : 273 + 1 = 274) ?_
    refine g_iconst X161 hx hby (4 : Int32) at_274 (by decide) (rfl : 274 + 1 = 275) ?_
    refine g_isub X161 hx hby at_275 (rfl : 275 + 1 = 276) ?_
    rw [(by decide : ((7 : Int32) - (4 : Int32)) = (3 : Int32))]
    refine g_imul X161 hx hby at_276 (rfl : 276 + 1 = 277) ?_
    rw [(by decide : ((8 : Int32) * (3 : Int32)) = (24 : Int32))]
    refine g_ishl X161 hx hby at_277 (rfl : 277 + 1 = 278) ?_
    rw [(by decide : ((1 : Int32) <<< ((24 : Int32) &&& 31)) = (16777216 : Int32))]
    refine g_iconst X161 hx hby (1 : Int32) at_278 (by decide) (rfl : 278 + 1 = 279) ?_
    refine g_isub X161 hx hby at_279 (rfl : 279 + 1 = 280) ?_
    rw [(by decide : ((16777216 : Int32) - (1 : Int32)) = (16777215 : Int32))]
    refine g_iand X161 hx hby at_280 (rfl : 280 + 1 = 281) ?_
    have c162 : (F_imx (((F_ifx (F_hs7 (x1.toInt8.toInt32) (((x1.toUInt32 >>> ((8 : Int32) &&& 31).toUInt32).toInt32).toInt8.toInt32) (((x1.toUInt32 >>> ((16 : Int32) &&& 31).toUInt32).toInt32).toInt8.toInt32) (((x1.toUInt32 >>> ((24 : Int32) &&& 31).toUInt32).toInt32).toInt8.toInt32) (x2.toInt8.toInt32) (((x2.toUInt32 >>> ((8 : Int32) &&& 31).toUInt32).toInt32).toInt8.toInt32) (((x2.toUInt32 >>> ((16 : Int32) &&& 31).toUInt32).toInt32).toInt8.toInt32))) ^^^ (7 : Int32)) ^^^ ((F_ifx (F_hs4 (x1.toInt8.toInt32) (((x1.toUInt32 >>> ((8 : Int32) &&& 31).toUInt32).toInt32).toInt8.toInt32) (((x1.toUInt32 >>> ((16 : Int32) &&& 31).toUInt32).toInt32).toInt8.toInt32) (((x1.toUInt32 >>> ((24 : Int32) &&& 31).toUInt32).toInt32).toInt8.toInt32))) ^^^ (4 : Int32)))) = (x2 &&& (16777215 : Int32)) := own_h7 x1 x2
    refine g_icF X161 hx hby at_281 (teq c162).2 (rfl : 281 + 3 = 284) ?_
    refine g_iconst X161 hx hby (1 : Int32) at_284 (by decide) (rfl : 284 + 1 = 285) ?_
    refine g_goto X161 hx hby at_285 (by decide) (pc' := 289) (by decide) ?_
    refine own_retN X161 hx hby hlk (t := .boolean) hrt (by simp) at_289 (by decide) (by decide) ?_
    show Q_law Z x0 x1 x2 h0 n0 _ T161.heap _
    exact ⟨rfl, N161⟩
  · rw [hk25]
    refine g_iloadN X0 hx hby at_8 rfl (rfl : 8 + 1 = 9) ?_
    obtain ⟨T163, h163, k163, X163, e163, E163, A163, B163, st163⟩ := newPE X0 hx hZ (hw _ (List.mem_of_getElem? (i := 1) rfl)) e0 (g := (mkF m 9 #[.val (.int x0), .val (.int x1), .val (.int x2), .val (.int (8 : Int32)), .unset, .unset, .unset, .unset, .unset] [(.int (8 : Int32))])) rfl (hb hby at_9) rfl (by decide) (cap := 8) (by decide) (by decide) (by decide) (by decide) (ad := "[B") (by decide +kernel)
    obtain ⟨b163, g163⟩ : ∃ z, z = h0.size := ⟨_, rfl⟩
    rw [← g163] at A163 B163 st163
    have Z163 : n0 ≤ h163.size := Nat.le_trans Z0 E163.1
    have ge163 : n0 ≤ b163 := Nat.le_trans Z0 (Nat.le_of_eq g163.symm)
    have V163 : Arv Z h163 b163 k163 .byte (8 : Int32) [(.int (0 : Int32)), (.int (0 : Int32)), (.int (0 : Int32)), (.int (0 : Int32)), (.int (0 : Int32)), (.int (0 : Int32)), (.int (0 : Int32)), (.int (0 : Int32))] (.int (0 : Int32)) := (Arv.new A163 (by decide)).pad (pad_rep [] _ 8)
    refine own_go st163 ?_
    show own_Got p e below _ T163 (mkF m 11 #[.val (.int x0), .val (.int x1), .val (.int x2), .val (.int (8 : Int32)), .unset, .unset, .unset, .unset, .unset] [(.ref b163)])
    refine g_astore X163 hx hby #[.val (.int x0), .val (.int x1), .val (.int x2), .val (.int (8 : Int32)), .val (.ref b163), .unset, .unset, .unset, .unset] at_11 rfl rfl (rfl : 11 + 2 = 13) ?_
    refine g_iloadN X163 hx hby at_13 rfl (rfl : 13 + 1 = 14) ?_
    refine g_ifF X163 hx hby at_14 ((if0 _ _).trans (tlt (by decide : (0 : Int32) < (8 : Int32))).2.2.2) (rfl : 14 + 3 = 17) ?_
    refine g_aload X163 hx hby at_17 rfl rfl (rfl : 17 + 2 = 19) ?_
    refine g_iconst X163 hx hby (0 : Int32) at_19 (by decide) (rfl : 19 + 1 = 20) ?_
    refine g_iloadN X163 hx hby at_20 rfl (rfl : 20 + 1 = 21) ?_
    refine g_i2b X163 hx hby at_21 (rfl : 21 + 1 = 22) ?_
    obtain ⟨T164, h164, X164, e164, W164, V164, st164⟩ := a_bastore X163 hx hby hZ e163 (ls := #[.val (.int x0), .val (.int x1), .val (.int x2), .val (.int (8 : Int32)), .val (.ref b163), .unset, .unset, .unset, .unset]) (st := []) (j := (0 : Int32)) (x1.toInt8.toInt32) 0 V163 ⟨by decide, by decide⟩ (by decide) (Nat.le_of_ble_eq_true rfl) at_22
    have Z164 : n0 ≤ h164.size := Nat.le_trans Z163 (Keep.of_wr W164).1
    have N164 := Fr.snoc X164 N0 ge163
    have V164' : Arv Z h164 b163 k163 .byte (8 : Int32) [(.int (x1.toInt8.toInt32)), (.int (0 : Int32)), (.int (0 : Int32)), (.int (0 : Int32)), (.int (0 : Int32)), (.int (0 : Int32)), (.int (0 : Int32)), (.int (0 : Int32))] (.int (0 : Int32)) := by have q := V164; rw [own_nb] at q; exact q
    refine own_go st164 ?_
    show own_Got p e below _ T164 (mkF m 23 #[.val (.int x0), .val (.int x1), .val (.int x2), .val (.int (8 : Int32)), .val (.ref b163), .unset, .unset, .unset, .unset] [])
    refine g_iloadN X164 hx hby at_23 rfl (rfl : 23 + 1 = 24) ?_
    refine g_iconst X164 hx hby (1 : Int32) at_24 (by decide) (rfl : 24 + 1 = 25) ?_
    refine g_icF X164 hx hby at_25 (tlt (by decide : (1 : Int32) < (8 : Int32))).2.2.2 (rfl : 25 + 3 = 28) ?_
    refine g_aload X164 hx hby at_28 rfl rfl (rfl : 28 + 2 = 30) ?_
    refine g_iconst X164 hx hby (1 : Int32) at_30 (by decide) (rfl : 30 + 1 = 31) ?_
    refine g_iloadN X164 hx hby at_31 rfl (rfl : 31 + 1 = 32) ?_
    refine g_bipush X164 hx hby (8 : Int32) at_32 (by decide) (rfl : 32 + 2 = 34) ?_
    refine g_iushr X164 hx hby at_34 (rfl : 34 + 1 = 35) ?_
    refine g_i2b X164 hx hby at_35 (rfl : 35 + 1 = 36) ?_
    obtain ⟨T165, h165, X165, e165, W165, V165, st165⟩ := a_bastore X164 hx hby hZ e164 (ls := #[.val (.int x0), .val (.int x1), .val (.int x2), .val (.int (8 : Int32)), .val (.ref b163), .unset, .unset, .unset, .unset]) (st := []) (j := (1 : Int32)) (((x1.toUInt32 >>> ((8 : Int32) &&& 31).toUInt32).toInt32).toInt8.toInt32) 1 V164' ⟨by decide, by decide⟩ (by decide) (Nat.le_of_ble_eq_true rfl) at_36
    have Z165 : n0 ≤ h165.size := Nat.le_trans Z164 (Keep.of_wr W165).1
    have N165 := Fr.snoc X165 N164 ge163
    have V165' : Arv Z h165 b163 k163 .byte (8 : Int32) [(.int (x1.toInt8.toInt32)), (.int (((x1.toUInt32 >>> ((8 : Int32) &&& 31).toUInt32).toInt32).toInt8.toInt32)), (.int (0 : Int32)), (.int (0 : Int32)), (.int (0 : Int32)), (.int (0 : Int32)), (.int (0 : Int32)), (.int (0 : Int32))] (.int (0 : Int32)) := by have q := V165; rw [own_nb] at q; exact q
    refine own_go st165 ?_
    show own_Got p e below _ T165 (mkF m 37 #[.val (.int x0), .val (.int x1), .val (.int x2), .val (.int (8 : Int32)), .val (.ref b163), .unset, .unset, .unset, .unset] [])
    refine g_iloadN X165 hx hby at_37 rfl (rfl : 37 + 1 = 38) ?_
    refine g_iconst X165 hx hby (2 : Int32) at_38 (by decide) (rfl : 38 + 1 = 39) ?_
    refine g_icF X165 hx hby at_39 (tlt (by decide : (2 : Int32) < (8 : Int32))).2.2.2 (rfl : 39 + 3 = 42) ?_
    refine g_aload X165 hx hby at_42 rfl rfl (rfl : 42 + 2 = 44) ?_
    refine g_iconst X165 hx hby (2 : Int32) at_44 (by decide) (rfl : 44 + 1 = 45) ?_
    refine g_iloadN X165 hx hby at_45 rfl (rfl : 45 + 1 = 46) ?_
    refine g_bipush X165 hx hby (16 : Int32) at_46 (by decide) (rfl : 46 + 2 = 48) ?_
    refine g_iushr X165 hx hby at_48 (rfl : 48 + 1 = 49) ?_
    refine g_i2b X165 hx hby at_49 (rfl : 49 + 1 = 50) ?_
    obtain ⟨T166, h166, X166, e166, W166, V166, st166⟩ := a_bastore X165 hx hby hZ e165 (ls := #[.val (.int x0), .val (.int x1), .val (.int x2), .val (.int (8 : Int32)), .val (.ref b163), .unset, .unset, .unset, .unset]) (st := []) (j := (2 : Int32)) (((x1.toUInt32 >>> ((16 : Int32) &&& 31).toUInt32).toInt32).toInt8.toInt32) 2 V165' ⟨by decide, by decide⟩ (by decide) (Nat.le_of_ble_eq_true rfl) at_50
    have Z166 : n0 ≤ h166.size := Nat.le_trans Z165 (Keep.of_wr W166).1
    have N166 := Fr.snoc X166 N165 ge163
    have V166' : Arv Z h166 b163 k163 .byte (8 : Int32) [(.int (x1.toInt8.toInt32)), (.int (((x1.toUInt32 >>> ((8 : Int32) &&& 31).toUInt32).toInt32).toInt8.toInt32)), (.int (((x1.toUInt32 >>> ((16 : Int32) &&& 31).toUInt32).toInt32).toInt8.toInt32)), (.int (0 : Int32)), (.int (0 : Int32)), (.int (0 : Int32)), (.int (0 : Int32)), (.int (0 : Int32))] (.int (0 : Int32)) := by have q := V166; rw [own_nb] at q; exact q
    refine own_go st166 ?_
    show own_Got p e below _ T166 (mkF m 51 #[.val (.int x0), .val (.int x1), .val (.int x2), .val (.int (8 : Int32)), .val (.ref b163), .unset, .unset, .unset, .unset] [])
    refine g_iloadN X166 hx hby at_51 rfl (rfl : 51 + 1 = 52) ?_
    refine g_iconst X166 hx hby (3 : Int32) at_52 (by decide) (rfl : 52 + 1 = 53) ?_
    refine g_icF X166 hx hby at_53 (tlt (by decide : (3 : Int32) < (8 : Int32))).2.2.2 (rfl : 53 + 3 = 56) ?_
    refine g_aload X166 hx hby at_56 rfl rfl (rfl : 56 + 2 = 58) ?_
    refine g_iconst X166 hx hby (3 : Int32) at_58 (by decide) (rfl : 58 + 1 = 59) ?_
    refine g_iloadN X166 hx hby at_59 rfl (rfl : 59 + 1 = 60) ?_
    refine g_bipush X166 hx hby (24 : Int32) at_60 (by decide) (rfl : 60 + 2 = 62) ?_
    refine g_iushr X166 hx hby at_62 (rfl : 62 + 1 = 63) ?_
    refine g_i2b X166 hx hby at_63 (rfl : 63 + 1 = 64) ?_
    obtain ⟨T167, h167, X167, e167, W167, V167, st167⟩ := a_bastore X166 hx hby hZ e166 (ls := #[.val (.int x0), .val (.int x1), .val (.int x2), .val (.int (8 : Int32)), .val (.ref b163), .unset, .unset, .unset, .unset]) (st := []) (j := (3 : Int32)) (((x1.toUInt32 >>> ((24 : Int32) &&& 31).toUInt32).toInt32).toInt8.toInt32) 3 V166' ⟨by decide, by decide⟩ (by decide) (Nat.le_of_ble_eq_true rfl) at_64
    have Z167 : n0 ≤ h167.size := Nat.le_trans Z166 (Keep.of_wr W167).1
    have N167 := Fr.snoc X167 N166 ge163
    have V167' : Arv Z h167 b163 k163 .byte (8 : Int32) [(.int (x1.toInt8.toInt32)), (.int (((x1.toUInt32 >>> ((8 : Int32) &&& 31).toUInt32).toInt32).toInt8.toInt32)), (.int (((x1.toUInt32 >>> ((16 : Int32) &&& 31).toUInt32).toInt32).toInt8.toInt32)), (.int (((x1.toUInt32 >>> ((24 : Int32) &&& 31).toUInt32).toInt32).toInt8.toInt32)), (.int (0 : Int32)), (.int (0 : Int32)), (.int (0 : Int32)), (.int (0 : Int32))] (.int (0 : Int32)) := by have q := V167; rw [own_nb] at q; exact q
    refine own_go st167 ?_
    show own_Got p e below _ T167 (mkF m 65 #[.val (.int x0), .val (.int x1), .val (.int x2), .val (.int (8 : Int32)), .val (.ref b163), .unset, .unset, .unset, .unset] [])
    refine g_iloadN X167 hx hby at_65 rfl (rfl : 65 + 1 = 66) ?_
    refine g_iconst X167 hx hby (4 : Int32) at_66 (by decide) (rfl : 66 + 1 = 67) ?_
    refine g_icF X167 hx hby at_67 (tlt (by decide : (4 : Int32) < (8 : Int32))).2.2.2 (rfl : 67 + 3 = 70) ?_
    refine g_aload X167 hx hby at_70 rfl rfl (rfl : 70 + 2 = 72) ?_
    refine g_iconst X167 hx hby (4 : Int32) at_72 (by decide) (rfl : 72 + 1 = 73) ?_
    refine g_iloadN X167 hx hby at_73 rfl (rfl : 73 + 1 = 74) ?_
    refine g_i2b X167 hx hby at_74 (rfl : 74 + 1 = 75) ?_
    obtain ⟨T168, h168, X168, e168, W168, V168, st168⟩ := a_bastore X167 hx hby hZ e167 (ls := #[.val (.int x0), .val (.int x1), .val (.int x2), .val (.int (8 : Int32)), .val (.ref b163), .unset, .unset, .unset, .unset]) (st := []) (j := (4 : Int32)) (x2.toInt8.toInt32) 4 V167' ⟨by decide, by decide⟩ (by decide) (Nat.le_of_ble_eq_true rfl) at_75
    have Z168 : n0 ≤ h168.size := Nat.le_trans Z167 (Keep.of_wr W168).1
    have N168 := Fr.snoc X168 N167 ge163
    have V168' : Arv Z h168 b163 k163 .byte (8 : Int32) [(.int (x1.toInt8.toInt32)), (.int (((x1.toUInt32 >>> ((8 : Int32) &&& 31).toUInt32).toInt32).toInt8.toInt32)), (.int (((x1.toUInt32 >>> ((16 : Int32) &&& 31).toUInt32).toInt32).toInt8.toInt32)), (.int (((x1.toUInt32 >>> ((24 : Int32) &&& 31).toUInt32).toInt32).toInt8.toInt32)), (.int (x2.toInt8.toInt32)), (.int (0 : Int32)), (.int (0 : Int32)), (.int (0 : Int32))] (.int (0 : Int32)) := by have q := V168; rw [own_nb] at q; exact q
    refine own_go st168 ?_
    show own_Got p e below _ T168 (mkF m 76 #[.val (.int x0), .val (.int x1), .val (.int x2), .val (.int (8 : Int32)), .val (.ref b163), .unset, .unset, .unset, .unset] [])
    refine g_iloadN X168 hx hby at_76 rfl (rfl : 76 + 1 = 77) ?_
    refine g_iconst X168 hx hby (5 : Int32) at_77 (by decide) (rfl : 77 + 1 = 78) ?_
    refine g_icF X168 hx hby at_78 (tlt (by decide : (5 : Int32) < (8 : Int32))).2.2.2 (rfl : 78 + 3 = 81) ?_
    refine g_aload X168 hx hby at_81 rfl rfl (rfl : 81 + 2 = 83) ?_
    refine g_iconst X168 hx hby (5 : Int32) at_83 (by decide) (rfl : 83 + 1 = 84) ?_
    refine g_iloadN X168 hx hby at_84 rfl (rfl : 84 + 1 = 85) ?_
    refine g_bipush X168 hx hby (8 : Int32) at_85 (by decide) (rfl : 85 + 2 = 87) ?_
    refine g_iushr X168 hx hby at_87 (rfl : 87 + 1 = 88) ?_
    refine g_i2b X168 hx hby at_88 (rfl : 88 + 1 = 89) ?_
    obtain ⟨T169, h169, X169, e169, W169, V169, st169⟩ := a_bastore X168 hx hby hZ e168 (ls := #[.val (.int x0), .val (.int x1), .val (.int x2), .val (.int (8 : Int32)), .val (.ref b163), .unset, .unset, .unset, .unset]) (st := []) (j := (5 : Int32)) (((x2.toUInt32 >>> ((8 : Int32) &&& 31).toUInt32).toInt32).toInt8.toInt32) 5 V168' ⟨by decide, by decide⟩ (by decide) (Nat.le_of_ble_eq_true rfl) at_89
    have Z169 : n0 ≤ h169.size := Nat.le_trans Z168 (Keep.of_wr W169).1
    have N169 := Fr.snoc X169 N168 ge163
    have V169' : Arv Z h169 b163 k163 .byte (8 : Int32) [(.int (x1.toInt8.toInt32)), (.int (((x1.toUInt32 >>> ((8 : Int32) &&& 31).toUInt32).toInt32).toInt8.toInt32)), (.int (((x1.toUInt32 >>> ((16 : Int32) &&& 31).toUInt32).toInt32).toInt8.toInt32)), (.int (((x1.toUInt32 >>> ((24 : Int32) &&& 31).toUInt32).toInt32).toInt8.toInt32)), (.int (x2.toInt8.toInt32)), (.int (((x2.toUInt32 >>> ((8 : Int32) &&& 31).toUInt32).toInt32).toInt8.toInt32)), (.int (0 : Int32)), (.int (0 : Int32))] (.int (0 : Int32)) := by have q := V169; rw [own_nb] at q; exact q
    refine own_go st169 ?_
    show own_Got p e below _ T169 (mkF m 90 #[.val (.int x0), .val (.int x1), .val (.int x2), .val (.int (8 : Int32)), .val (.ref b163), .unset, .unset, .unset, .unset] [])
    refine g_iloadN X169 hx hby at_90 rfl (rfl : 90 + 1 = 91) ?_
    refine g_bipush X169 hx hby (6 : Int32) at_91 (by decide) (rfl : 91 + 2 = 93) ?_
    refine g_icF X169 hx hby at_93 (tlt (by decide : (6 : Int32) < (8 : Int32))).2.2.2 (rfl : 93 + 3 = 96) ?_
    refine g_aload X169 hx hby at_96 rfl rfl (rfl : 96 + 2 = 98) ?_
    refine g_bipush X169 hx hby (6 : Int32) at_98 (by decide) (rfl : 98 + 2 = 100) ?_
    refine g_iloadN X169 hx hby at_100 rfl (rfl : 100 + 1 = 101) ?_
    refine g_bipush X169 hx hby (16 : Int32) at_101 (by decide) (rfl : 101 + 2 = 103) ?_
    refine g_iushr X169 hx hby at_103 (rfl : 103 + 1 = 104) ?_
    refine g_i2b X169 hx hby at_104 (rfl : 104 + 1 = 105) ?_
    obtain ⟨T170, h170, X170, e170, W170, V170, st170⟩ := a_bastore X169 hx hby hZ e169 (ls := #[.val (.int x0), .val (.int x1), .val (.int x2), .val (.int (8 : Int32)), .val (.ref b163), .unset, .unset, .unset, .unset]) (st := []) (j := (6 : Int32)) (((x2.toUInt32 >>> ((16 : Int32) &&& 31).toUInt32).toInt32).toInt8.toInt32) 6 V169' ⟨by decide, by decide⟩ (by decide) (Nat.le_of_ble_eq_true rfl) at_105
    have Z170 : n0 ≤ h170.size := Nat.le_trans Z169 (Keep.of_wr W170).1
    have N170 := Fr.snoc X170 N169 ge163
    have V170' : Arv Z h170 b163 k163 .byte (8 : Int32) [(.int (x1.toInt8.toInt32)), (.int (((x1.toUInt32 >>> ((8 : Int32) &&& 31).toUInt32).toInt32).toInt8.toInt32)), (.int (((x1.toUInt32 >>> ((16 : Int32) &&& 31).toUInt32).toInt32).toInt8.toInt32)), (.int (((x1.toUInt32 >>> ((24 : Int32) &&& 31).toUInt32).toInt32).toInt8.toInt32)), (.int (x2.toInt8.toInt32)), (.int (((x2.toUInt32 >>> ((8 : Int32) &&& 31).toUInt32).toInt32).toInt8.toInt32)), (.int (((x2.toUInt32 >>> ((16 : Int32) &&& 31).toUInt32).toInt32).toInt8.toInt32)), (.int (0 : Int32))] (.int (0 : Int32)) := by have q := V170; rw [own_nb] at q; exact q
    refine own_go st170 ?_
    show own_Got p e below _ T170 (mkF m 106 #[.val (.int x0), .val (.int x1), .val (.int x2), .val (.int (8 : Int32)), .val (.ref b163), .unset, .unset, .unset, .unset] [])
    refine g_iloadN X170 hx hby at_106 rfl (rfl : 106 + 1 = 107) ?_
    refine g_bipush X170 hx hby (7 : Int32) at_107 (by decide) (rfl : 107 + 2 = 109) ?_
    refine g_icF X170 hx hby at_109 (tlt (by decide : (7 : Int32) < (8 : Int32))).2.2.2 (rfl : 109 + 3 = 112) ?_
    refine g_aload X170 hx hby at_112 rfl rfl (rfl : 112 + 2 = 114) ?_
    refine g_bipush X170 hx hby (7 : Int32) at_114 (by decide) (rfl : 114 + 2 = 116) ?_
    refine g_iloadN X170 hx hby at_116 rfl (rfl : 116 + 1 = 117) ?_
    refine g_bipush X170 hx hby (24 : Int32) at_117 (by decide) (rfl : 117 + 2 = 119) ?_
    refine g_iushr X170 hx hby at_119 (rfl : 119 + 1 = 120) ?_
    refine g_i2b X170 hx hby at_120 (rfl : 120 + 1 = 121) ?_
    obtain ⟨T171, h171, X171, e171, W171, V171, st171⟩ := a_bastore X170 hx hby hZ e170 (ls := #[.val (.int x0), .val (.int x1), .val (.int x2), .val (.int (8 : Int32)), .val (.ref b163), .unset, .unset, .unset, .unset]) (st := []) (j := (7 : Int32)) (((x2.toUInt32 >>> ((24 : Int32) &&& 31).toUInt32).toInt32).toInt8.toInt32) 7 V170' ⟨by decide, by decide⟩ (by decide) (Nat.le_of_ble_eq_true rfl) at_121
    have Z171 : n0 ≤ h171.size := Nat.le_trans Z170 (Keep.of_wr W171).1
    have N171 := Fr.snoc X171 N170 ge163
    have V171' : Arv Z h171 b163 k163 .byte (8 : Int32) [(.int (x1.toInt8.toInt32)), (.int (((x1.toUInt32 >>> ((8 : Int32) &&& 31).toUInt32).toInt32).toInt8.toInt32)), (.int (((x1.toUInt32 >>> ((16 : Int32) &&& 31).toUInt32).toInt32).toInt8.toInt32)), (.int (((x1.toUInt32 >>> ((24 : Int32) &&& 31).toUInt32).toInt32).toInt8.toInt32)), (.int (x2.toInt8.toInt32)), (.int (((x2.toUInt32 >>> ((8 : Int32) &&& 31).toUInt32).toInt32).toInt8.toInt32)), (.int (((x2.toUInt32 >>> ((16 : Int32) &&& 31).toUInt32).toInt32).toInt8.toInt32)), (.int (((x2.toUInt32 >>> ((24 : Int32) &&& 31).toUInt32).toInt32).toInt8.toInt32))] (.int (0 : Int32)) := by have q := V171; rw [own_nb] at q; exact q
    refine own_go st171 ?_
    show own_Got p e below _ T171 (mkF m 122 #[.val (.int x0), .val (.int x1), .val (.int x2), .val (.int (8 : Int32)), .val (.ref b163), .unset, .unset, .unset, .unset] [])
    refine g_iconst X171 hx hby (4 : Int32) at_122 (by decide) (rfl : 122 + 1 = 123) ?_
    have f173 : Exa Z h171 b163 "[B" := (Exa.wr W171 (Exa.wr W170 (Exa.wr W169 (Exa.wr W168 (Exa.wr W167 (Exa.wr W166 (Exa.wr W165 (Exa.wr W164 B163))))))))
    obtain ⟨T172, h172, k172, X172, e172, E172, A172, B172, st172⟩ := newPE X171 hx hZ (hw _ (List.mem_of_getElem? (i := 1) rfl)) e171 (g := (mkF m 123 #[.val (.int x0), .val (.int x1), .val (.int x2), .val (.int (8 : Int32)), .val (.ref b163), .unset, .unset, .unset, .unset] [(.int (4 : Int32))])) rfl (hb hby at_123) rfl (by decide) (cap := 4) (by decide) (by decide) (by decide) (by decide) (ad := "[B") (by decide +kernel)
    obtain ⟨b172, g172⟩ : ∃ z, z = h171.size := ⟨_, rfl⟩
    rw [← g172] at A172 B172 st172
    have ne174 : b163 ≠ b172 := Nat.ne_of_lt (Nat.lt_of_lt_of_le (f173).lt (Nat.le_of_eq g172.symm))
    have Z172 : n0 ≤ h172.size := Nat.le_trans Z171 E172.1
    have ge172 : n0 ≤ b172 := Nat.le_trans Z171 (Nat.le_of_eq g172.symm)
    have V172 : Arv Z h172 b172 k172 .byte (4 : Int32) [(.int (0 : Int32)), (.int (0 : Int32)), (.int (0 : Int32)), (.int (0 : Int32))] (.int (0 : Int32)) := (Arv.new A172 (by decide)).pad (pad_rep [] _ 4)
    refine own_go st172 ?_
    show own_Got p e below _ T172 (mkF m 125 #[.val (.int x0), .val (.int x1), .val (.int x2), .val (.int (8 : Int32)), .val (.ref b163), .unset, .unset, .unset, .unset] [(.ref b172)])
    refine g_astore X172 hx hby #[.val (.int x0), .val (.int x1), .val (.int x2), .val (.int (8 : Int32)), .val (.ref b163), .val (.ref b172), .unset, .unset, .unset] at_125 rfl rfl (rfl : 125 + 2 = 127) ?_
    refine g_aload X172 hx hby at_127 rfl rfl (rfl : 127 + 2 = 129) ?_
    refine g_iconst X172 hx hby (0 : Int32) at_129 (by decide) (rfl : 129 + 1 = 130) ?_
    refine g_iloadN X172 hx hby at_130 rfl (rfl : 130 + 1 = 131) ?_
    refine g_i2b X172 hx hby at_131 (rfl : 131 + 1 = 132) ?_
    obtain ⟨T175, h175, X175, e175, W175, V175, st175⟩ := a_bastore X172 hx hby hZ e172 (ls := #[.val (.int x0), .val (.int x1), .val (.int x2), .val (.int (8 : Int32)), .val (.ref b163), .val (.ref b172), .unset, .unset, .unset]) (st := []) (j := (0 : Int32)) (x1.toInt8.toInt32) 0 V172 ⟨by decide, by decide⟩ (by decide) (Nat.le_of_ble_eq_true rfl) at_132
    have Z175 : n0 ≤ h175.size := Nat.le_trans Z172 (Keep.of_wr W175).1
    have N175 := Fr.snoc X175 N171 ge172
    have V175' : Arv Z h175 b172 k172 .byte (4 : Int32) [(.int (x1.toInt8.toInt32)), (.int (0 : Int32)), (.int (0 : Int32)), (.int (0 : Int32))] (.int (0 : Int32)) := by have q := V175; rw [own_nb] at q; exact q
    refine own_go st175 ?_
    show own_Got p e below _ T175 (mkF m 133 #[.val (.int x0), .val (.int x1), .val (.int x2), .val (.int (8 : Int32)), .val (.ref b163), .val (.ref b172), .unset, .unset, .unset] [])
    refine g_aload X175 hx hby at_133 rfl rfl (rfl : 133 + 2 = 135) ?_
    refine g_iconst X175 hx hby (1 : Int32) at_135 (by decide) (rfl : 135 + 1 = 136) ?_
    refine g_iloadN X175 hx hby at_136 rfl (rfl : 136 + 1 = 137) ?_
    refine g_bipush X175 hx hby (8 : Int32) at_137 (by decide) (rfl : 137 + 2 = 139) ?_
    refine g_iushr X175 hx hby at_139 (rfl : 139 + 1 = 140) ?_
    refine g_i2b X175 hx hby at_140 (rfl : 140 + 1 = 141) ?_
    obtain ⟨T176, h176, X176, e176, W176, V176, st176⟩ := a_bastore X175 hx hby hZ e175 (ls := #[.val (.int x0), .val (.int x1), .val (.int x2), .val (.int (8 : Int32)), .val (.ref b163), .val (.ref b172), .unset, .unset, .unset]) (st := []) (j := (1 : Int32)) (((x1.toUInt32 >>> ((8 : Int32) &&& 31).toUInt32).toInt32).toInt8.toInt32) 1 V175' ⟨by decide, by decide⟩ (by decide) (Nat.le_of_ble_eq_true rfl) at_141
    have Z176 : n0 ≤ h176.size := Nat.le_trans Z175 (Keep.of_wr W176).1
    have N176 := Fr.snoc X176 N175 ge172
    have V176' : Arv Z h176 b172 k172 .byte (4 : Int32) [(.int (x1.toInt8.toInt32)), (.int (((x1.toUInt32 >>> ((8 : Int32) &&& 31).toUInt32).toInt32).toInt8.toInt32)), (.int (0 : Int32)), (.int (0 : Int32))] (.int (0 : Int32)) := by have q := V176; rw [own_nb] at q; exact q
    refine own_go st176 ?_
    show own_Got p e below _ T176 (mkF m 142 #[.val (.int x0), .val (.int x1), .val (.int x2), .val (.int (8 : Int32)), .val (.ref b163), .val (.ref b172), .unset, .unset, .unset] [])
    refine g_aload X176 hx hby at_142 rfl rfl (rfl : 142 + 2 = 144) ?_
    refine g_iconst X176 hx hby (2 : Int32) at_144 (by decide) (rfl : 144 + 1 = 145) ?_
    refine g_iloadN X176 hx hby at_145 rfl (rfl : 145 + 1 = 146) ?_
    refine g_bipush X176 hx hby (16 : Int32) at_146 (by decide) (rfl : 146 + 2 = 148) ?_
    refine g_iushr X176 hx hby at_148 (rfl : 148 + 1 = 149) ?_
    refine g_i2b X176 hx hby at_149 (rfl : 149 + 1 = 150) ?_
    obtain ⟨T177, h177, X177, e177, W177, V177, st177⟩ := a_bastore X176 hx hby hZ e176 (ls := #[.val (.int x0), .val (.int x1), .val (.int x2), .val (.int (8 : Int32)), .val (.ref b163), .val (.ref b172), .unset, .unset, .unset]) (st := []) (j := (2 : Int32)) (((x1.toUInt32 >>> ((16 : Int32) &&& 31).toUInt32).toInt32).toInt8.toInt32) 2 V176' ⟨by decide, by decide⟩ (by decide) (Nat.le_of_ble_eq_true rfl) at_150
    have Z177 : n0 ≤ h177.size := Nat.le_trans Z176 (Keep.of_wr W177).1
    have N177 := Fr.snoc X177 N176 ge172
    have V177' : Arv Z h177 b172 k172 .byte (4 : Int32) [(.int (x1.toInt8.toInt32)), (.int (((x1.toUInt32 >>> ((8 : Int32) &&& 31).toUInt32).toInt32).toInt8.toInt32)), (.int (((x1.toUInt32 >>> ((16 : Int32) &&& 31).toUInt32).toInt32).toInt8.toInt32)), (.int (0 : Int32))] (.int (0 : Int32)) := by have q := V177; rw [own_nb] at q; exact q
    refine own_go st177 ?_
    show own_Got p e below _ T177 (mkF m 151 #[.val (.int x0), .val (.int x1), .val (.int x2), .val (.int (8 : Int32)), .val (.ref b163), .val (.ref b172), .unset, .unset, .unset] [])
    refine g_aload X177 hx hby at_151 rfl rfl (rfl : 151 + 2 = 153) ?_
    refine g_iconst X177 hx hby (3 : Int32) at_153 (by decide) (rfl : 153 + 1 = 154) ?_
    refine g_iloadN X177 hx hby at_154 rfl (rfl : 154 + 1 = 155) ?_
    refine g_bipush X177 hx hby (24 : Int32) at_155 (by decide) (rfl : 155 + 2 = 157) ?_
    refine g_iushr X177 hx hby at_157 (rfl : 157 + 1 = 158) ?_
    refine g_i2b X177 hx hby at_158 (rfl : 158 + 1 = 159) ?_
    obtain ⟨T178, h178, X178, e178, W178, V178, st178⟩ := a_bastore X177 hx hby hZ e177 (ls := #[.val (.int x0), .val (.int x1), .val (.int x2), .val (.int (8 : Int32)), .val (.ref b163), .val (.ref b172), .unset, .unset, .unset]) (st := []) (j := (3 : Int32)) (((x1.toUInt32 >>> ((24 : Int32) &&& 31).toUInt32).toInt32).toInt8.toInt32) 3 V177' ⟨by decide, by decide⟩ (by decide) (Nat.le_of_ble_eq_true rfl) at_159
    have Z178 : n0 ≤ h178.size := Nat.le_trans Z177 (Keep.of_wr W178).1
    have N178 := Fr.snoc X178 N177 ge172
    have V178' : Arv Z h178 b172 k172 .byte (4 : Int32) [(.int (x1.toInt8.toInt32)), (.int (((x1.toUInt32 >>> ((8 : Int32) &&& 31).toUInt32).toInt32).toInt8.toInt32)), (.int (((x1.toUInt32 >>> ((16 : Int32) &&& 31).toUInt32).toInt32).toInt8.toInt32)), (.int (((x1.toUInt32 >>> ((24 : Int32) &&& 31).toUInt32).toInt32).toInt8.toInt32))] (.int (0 : Int32)) := by have q := V178; rw [own_nb] at q; exact q
    refine own_go st178 ?_
    show own_Got p e below _ T178 (mkF m 160 #[.val (.int x0), .val (.int x1), .val (.int x2), .val (.int (8 : Int32)), .val (.ref b163), .val (.ref b172), .unset, .unset, .unset] [])
    refine g_aload X178 hx hby at_160 rfl rfl (rfl : 160 + 2 = 162) ?_
    have f180 : Arv Z h178 b163 k163 .byte (8 : Int32) [(.int (x1.toInt8.toInt32)), (.int (((x1.toUInt32 >>> ((8 : Int32) &&& 31).toUInt32).toInt32).toInt8.toInt32)), (.int (((x1.toUInt32 >>> ((16 : Int32) &&& 31).toUInt32).toInt32).toInt8.toInt32)), (.int (((x1.toUInt32 >>> ((24 : Int32) &&& 31).toUInt32).toInt32).toInt8.toInt32)), (.int (x2.toInt8.toInt32)), (.int (((x2.toUInt32 >>> ((8 : Int32) &&& 31).toUInt32).toInt32).toInt8.toInt32)), (.int (((x2.toUInt32 >>> ((16 : Int32) &&& 31).toUInt32).toInt32).toInt8.toInt32)), (.int (((x2.toUInt32 >>> ((24 : Int32) &&& 31).toUInt32).toInt32).toInt8.toInt32))] (.int (0 : Int32)) := (Arv.other (Arv.other (Arv.other (Arv.other (V171'.ext E172) W175 ne174) W176 ne174) W177 ne174) W178 ne174)
    obtain ⟨_, _, ⟨T179, L179, k179, n179⟩, -, X179, ⟨Lc179, hQ179, l179, y179, z179⟩, st179⟩ := Jvm.LawKit.callS X178 hx (y := (⟨"com/example/farshard/farshard/store/Murmur3", "hash32", "([B)I"⟩ : MethodName)) hown (mvT hZ (hw _ (List.mem_of_getElem? (i := 2) rfl))) (mvT hZ (hw _ (List.mem_of_getElem? (i := 3) rfl))) (mvT hZ (hw _ (List.mem_of_getElem? (i := 4) rfl))) (mvT hZ (hw _ (List.mem_of_getElem? (i := 5) rfl))) (by decide) (backOf (W := 0) (rm_hs8 l Z aT hw [] b163 k163 (x1.toInt8.toInt32) (((x1.toUInt32 >>> ((8 : Int32) &&& 31).toUInt32).toInt32).toInt8.toInt32) (((x1.toUInt32 >>> ((16 : Int32) &&& 31).toUInt32).toInt32).toInt8.toInt32) (((x1.toUInt32 >>> ((24 : Int32) &&& 31).toUInt32).toInt32).toInt8.toInt32) (x2.toInt8.toInt32) (((x2.toUInt32 >>> ((8 : Int32) &&& 31).toUInt32).toInt32).toInt8.toInt32) (((x2.toUInt32 >>> ((16 : Int32) &&& 31).toUInt32).toInt32).toInt8.toInt32) (((x2.toUInt32 >>> ((24 : Int32) &&& 31).toUInt32).toInt32).toInt8.toInt32) h178 n0 Z178 f180) hZ (hw _ (List.mem_of_getElem? (i := 5) rfl)) (hw _ (List.mem_of_getElem? (i := 4) rfl)) (by decide) (by decide)) (g := (mkF m 162 #[.val (.int x0), .val (.int x1), .val (.int x2), .val (.int (8 : Int32)), .val (.ref b163), .val (.ref b172), .unset, .unset, .unset] [(.ref b163)])) rfl (by rw [hml]; rfl) (argsL := [(.ref b163)]) (rest := []) (lenOf pd2 rfl) rfl (by show 2 * 0 + _ ≤ _; exact Nat.le_of_eq rfl) (hb hby at_162) (fun _ _ => ⟨rfl, e178, (by decide : 2 + 0 ≤ _), (by decide : 12 + 0 ≤ _)⟩)
    dsimp only [Pt.U, Pt.locs, Pt.cells, Pt.slots] at X179 l179 y179 z179 st179 hQ179
    subst l179 y179 z179
    obtain ⟨rfl, N179q, eq179⟩ := hQ179
    have N179 := Fr.app N178 N179q
    refine own_go st179 ?_
    show own_Got p e below _ T179 (mkF m 165 #[.val (.int x0), .val (.int x1), .val (.int x2), .val (.int (8 : Int32)), .val (.ref b163), .val (.ref b172), .unset, .unset, .unset] [(.int (F_hs8 (x1.toInt8.toInt32) (((x1.toUInt32 >>> ((8 : Int32) &&& 31).toUInt32).toInt32).toInt8.toInt32) (((x1.toUInt32 >>> ((16 : Int32) &&& 31).toUInt32).toInt32).toInt8.toInt32) (((x1.toUInt32 >>> ((24 : Int32) &&& 31).toUInt32).toInt32).toInt8.toInt32) (x2.toInt8.toInt32) (((x2.toUInt32 >>> ((8 : Int32) &&& 31).toUInt32).toInt32).toInt8.toInt32) (((x2.toUInt32 >>> ((16 : Int32) &&& 31).toUInt32).toInt32).toInt8.toInt32) (((x2.toUInt32 >>> ((24 : Int32) &&& 31).toUInt32).toInt32).toInt8.toInt32)))])
    refine g_istore X179 hx hby #[.val (.int x0), .val (.int x1), .val (.int x2), .val (.int (8 : Int32)), .val (.ref b163), .val (.ref b172), .val (.int (F_hs8 (x1.toInt8.toInt32) (((x1.toUInt32 >>> ((8 : Int32) &&& 31).toUInt32).toInt32).toInt8.toInt32) (((x1.toUInt32 >>> ((16 : Int32) &&& 31).toUInt32).toInt32).toInt8.toInt32) (((x1.toUInt32 >>> ((24 : Int32) &&& 31).toUInt32).toInt32).toInt8.toInt32) (x2.toInt8.toInt32) (((x2.toUInt32 >>> ((8 : Int32) &&& 31).toUInt32).toInt32).toInt8.toInt32) (((x2.toUInt32 >>> ((16 : Int32) &&& 31).toUInt32).toInt32).toInt8.toInt32) (((x2.toUInt32 >>> ((24 : Int32) &&& 31).toUInt32).toInt32).toInt8.toInt32))), .unset, .unset] at_165 rfl (rfl : 165 + 2 = 167) ?_
    refine g_iload X179 hx hby at_167 rfl (rfl : 167 + 2 = 169) ?_
    obtain ⟨_, _, ⟨T181, L181, k181, n181⟩, -, X181, ⟨Lc181, hQ181, l181, y181, z181⟩, st181⟩ := Jvm.LawKit.callS X179 hx (y := (⟨"com/example/farshard/farshard/store/Murmur3Hash32PinLaw", "invFmix", "(I)I"⟩ : MethodName)) hown (mvT hZ (hw _ (List.mem_of_getElem? (i := 8) rfl))) (mvT hZ (hw _ (List.mem_of_getElem? (i := 9) rfl))) (mvT hZ (hw _ (List.mem_of_getElem? (i := 10) rfl))) (mvT hZ (hw _ (List.mem_of_getElem? (i := 11) rfl))) (by decide) (backOf (W := 0) (rm_ifx l Z aT hw [] (F_hs8 (x1.toInt8.toInt32) (((x1.toUInt32 >>> ((8 : Int32) &&& 31).toUInt32).toInt32).toInt8.toInt32) (((x1.toUInt32 >>> ((16 : Int32) &&& 31).toUInt32).toInt32).toInt8.toInt32) (((x1.toUInt32 >>> ((24 : Int32) &&& 31).toUInt32).toInt32).toInt8.toInt32) (x2.toInt8.toInt32) (((x2.toUInt32 >>> ((8 : Int32) &&& 31).toUInt32).toInt32).toInt8.toInt32) (((x2.toUInt32 >>> ((16 : Int32) &&& 31).toUInt32).toInt32).toInt8.toInt32) (((x2.toUInt32 >>> ((24 : Int32) &&& 31).toUInt32).toInt32).toInt8.toInt32)) h178 n0 Z178) hZ (hw _ (List.mem_of_getElem? (i := 11) rfl)) (hw _ (List.mem_of_getElem? (i := 10) rfl)) (by decide) (by decide)) (g := (mkF m 169 #[.val (.int x0), .val (.int x1), .val (.int x2), .val (.int (8 : Int32)), .val (.ref b163), .val (.ref b172), .val (.int (F_hs8 (x1.toInt8.toInt32) (((x1.toUInt32 >>> ((8 : Int32) &&& 31).toUInt32).toInt32).toInt8.toInt32) (((x1.toUInt32 >>> ((16 : Int32) &&& 31).toUInt32).toInt32).toInt8.toInt32) (((x1.toUInt32 >>> ((24 : Int32) &&& 31).toUInt32).toInt32).toInt8.toInt32) (x2.toInt8.toInt32) (((x2.toUInt32 >>> ((8 : Int32) &&& 31).toUInt32).toInt32).toInt8.toInt32) (((x2.toUInt32 >>> ((16 : Int32) &&& 31).toUInt32).toInt32).toInt8.toInt32) (((x2.toUInt32 >>> ((24 : Int32) &&& 31).toUInt32).toInt32).toInt8.toInt32))), .unset, .unset] [(.int (F_hs8 (x1.toInt8.toInt32) (((x1.toUInt32 >>> ((8 : Int32) &&& 31).toUInt32).toInt32).toInt8.toInt32) (((x1.toUInt32 >>> ((16 : Int32) &&& 31).toUInt32).toInt32).toInt8.toInt32) (((x1.toUInt32 >>> ((24 : Int32) &&& 31).toUInt32).toInt32).toInt8.toInt32) (x2.toInt8.toInt32) (((x2.toUInt32 >>> ((8 : Int32) &&& 31).toUInt32).toInt32).toInt8.toInt32) (((x2.toUInt32 >>> ((16 : Int32) &&& 31).toUInt32).toInt32).toInt8.toInt32) (((x2.toUInt32 >>> ((24 : Int32) &&& 31).toUInt32).toInt32).toInt8.toInt32)))])) rfl (by rw [hml]; rfl) (argsL := [(.int (F_hs8 (x1.toInt8.toInt32) (((x1.toUInt32 >>> ((8 : Int32) &&& 31).toUInt32).toInt32).toInt8.toInt32) (((x1.toUInt32 >>> ((16 : Int32) &&& 31).toUInt32).toInt32).toInt8.toInt32) (((x1.toUInt32 >>> ((24 : Int32) &&& 31).toUInt32).toInt32).toInt8.toInt32) (x2.toInt8.toInt32) (((x2.toUInt32 >>> ((8 : Int32) &&& 31).toUInt32).toInt32).toInt8.toInt32) (((x2.toUInt32 >>> ((16 : Int32) &&& 31).toUInt32).toInt32).toInt8.toInt32) (((x2.toUInt32 >>> ((24 : Int32) &&& 31).toUInt32).toInt32).toInt8.toInt32)))]) (rest := []) (lenOf pd1 rfl) rfl (by show 2 * 0 + _ ≤ _; exact Nat.le_of_eq rfl) (hb hby at_169) (fun _ _ => ⟨rfl, eq179, (by decide : 2 + 0 ≤ _), (by decide : 12 + 0 ≤ _)⟩)
    dsimp only [Pt.U, Pt.locs, Pt.cells, Pt.slots] at X181 l181 y181 z181 st181 hQ181
    subst l181 y181 z181
    obtain ⟨rfl, N181q, eq181⟩ := hQ181
    have N181 := Fr.app N179 N181q
    refine own_go st181 ?_
    show own_Got p e below _ T181 (mkF m 172 #[.val (.int x0), .val (.int x1), .val (.int x2), .val (.int (8 : Int32)), .val (.ref b163), .val (.ref b172), .val (.int (F_hs8 (x1.toInt8.toInt32) (((x1.toUInt32 >>> ((8 : Int32) &&& 31).toUInt32).toInt32).toInt8.toInt32) (((x1.toUInt32 >>> ((16 : Int32) &&& 31).toUInt32).toInt32).toInt8.toInt32) (((x1.toUInt32 >>> ((24 : Int32) &&& 31).toUInt32).toInt32).toInt8.toInt32) (x2.toInt8.toInt32) (((x2.toUInt32 >>> ((8 : Int32) &&& 31).toUInt32).toInt32).toInt8.toInt32) (((x2.toUInt32 >>> ((16 : Int32) &&& 31).toUInt32).toInt32).toInt8.toInt32) (((x2.toUInt32 >>> ((24 : Int32) &&& 31).toUInt32).toInt32).toInt8.toInt32))), .unset, .unset] [(.int (F_ifx (F_hs8 (x1.toInt8.toInt32) (((x1.toUInt32 >>> ((8 : Int32) &&& 31).toUInt32).toInt32).toInt8.toInt32) (((x1.toUInt32 >>> ((16 : Int32) &&& 31).toUInt32).toInt32).toInt8.toInt32) (((x1.toUInt32 >>> ((24 : Int32) &&& 31).toUInt32).toInt32).toInt8.toInt32) (x2.toInt8.toInt32) (((x2.toUInt32 >>> ((8 : Int32) &&& 31).toUInt32).toInt32).toInt8.toInt32) (((x2.toUInt32 >>> ((16 : Int32) &&& 31).toUInt32).toInt32).toInt8.toInt32) (((x2.toUInt32 >>> ((24 : Int32) &&& 31).toUInt32).toInt32).toInt8.toInt32))))])
    refine g_iloadN X181 hx hby at_172 rfl (rfl : 172 + 1 = 173) ?_
    refine g_ixor X181 hx hby at_173 (rfl : 173 + 1 = 174) ?_
    refine g_istore X181 hx hby #[.val (.int x0), .val (.int x1), .val (.int x2), .val (.int (8 : Int32)), .val (.ref b163), .val (.ref b172), .val (.int (F_hs8 (x1.toInt8.toInt32) (((x1.toUInt32 >>> ((8 : Int32) &&& 31).toUInt32).toInt32).toInt8.toInt32) (((x1.toUInt32 >>> ((16 : Int32) &&& 31).toUInt32).toInt32).toInt8.toInt32) (((x1.toUInt32 >>> ((24 : Int32) &&& 31).toUInt32).toInt32).toInt8.toInt32) (x2.toInt8.toInt32) (((x2.toUInt32 >>> ((8 : Int32) &&& 31).toUInt32).toInt32).toInt8.toInt32) (((x2.toUInt32 >>> ((16 : Int32) &&& 31).toUInt32).toInt32).toInt8.toInt32) (((x2.toUInt32 >>> ((24 : Int32) &&& 31).toUInt32).toInt32).toInt8.toInt32))), .val (.int ((F_ifx (F_hs8 (x1.toInt8.toInt32) (((x1.toUInt32 >>> ((8 : Int32) &&& 31).toUInt32).toInt32).toInt8.toInt32) (((x1.toUInt32 >>> ((16 : Int32) &&& 31).toUInt32).toInt32).toInt8.toInt32) (((x1.toUInt32 >>> ((24 : Int32) &&& 31).toUInt32).toInt32).toInt8.toInt32) (x2.toInt8.toInt32) (((x2.toUInt32 >>> ((8 : Int32) &&& 31).toUInt32).toInt32).toInt8.toInt32) (((x2.toUInt32 >>> ((16 : Int32) &&& 31).toUInt32).toInt32).toInt8.toInt32) (((x2.toUInt32 >>> ((24 : Int32) &&& 31).toUInt32).toInt32).toInt8.toInt32))) ^^^ (8 : Int32))), .unset] at_174 rfl (rfl : 174 + 2 = 176) ?_
    refine g_iloadN X181 hx hby at_176 rfl (rfl : 176 + 1 = 177) ?_
    refine g_ifT X181 hx hby at_177 ((if0 _ _).trans (feq (by decide : ¬ ((8 : Int32) = (0 : Int32)))).2) (by decide) (pc' := 191) (by decide) ?_
    refine g_iloadN X181 hx hby at_191 rfl (rfl : 191 + 1 = 192) ?_
    refine g_iconst X181 hx hby (4 : Int32) at_192 (by decide) (rfl : 192 + 1 = 193) ?_
    refine g_icT X181 hx hby at_193 (flt (by decide : ¬ ((8 : Int32) < (4 : Int32)))).2.1 (by decide) (pc' := 220) (by decide) ?_
    refine g_iloadN X181 hx hby at_220 rfl (rfl : 220 + 1 = 221) ?_
    refine g_iconst X181 hx hby (4 : Int32) at_221 (by decide) (rfl : 221 + 1 = 222) ?_
    refine g_icT X181 hx hby at_222 (feq (by decide : ¬ ((8 : Int32) = (4 : Int32)))).2 (by decide) (pc' := 243) (by decide) ?_
    refine g_aload X181 hx hby at_243 rfl rfl (rfl : 243 + 2 = 245) ?_
    obtain ⟨_, _, ⟨T182, L182, k182, n182⟩, -, X182, ⟨Lc182, hQ182, l182, y182, z182⟩, st182⟩ := Jvm.LawKit.callS X181 hx (y := (⟨"com/example/farshard/farshard/store/Murmur3", "hash32", "([B)I"⟩ : MethodName)) hown (mvT hZ (hw _ (List.mem_of_getElem? (i := 2) rfl))) (mvT hZ (hw _ (List.mem_of_getElem? (i := 3) rfl))) (mvT hZ (hw _ (List.mem_of_getElem? (i := 4) rfl))) (mvT hZ (hw _ (List.mem_of_getElem? (i := 5) rfl))) (by decide) (backOf (W := 0) (rm_hs4 l Z aT hw [] b172 k172 (x1.toInt8.toInt32) (((x1.toUInt32 >>> ((8 : Int32) &&& 31).toUInt32).toInt32).toInt8.toInt32) (((x1.toUInt32 >>> ((16 : Int32) &&& 31).toUInt32).toInt32).toInt8.toInt32) (((x1.toUInt32 >>> ((24 : Int32) &&& 31).toUInt32).toInt32).toInt8.toInt32) h178 n0 Z178 V178') hZ (hw _ (List.mem_of_getElem? (i := 5) rfl)) (hw _ (List.mem_of_getElem? (i := 4) rfl)) (by decide) (by decide)) (g := (mkF m 245 #[.val (.int x0), .val (.int x1), .val (.int x2), .val (.int (8 : Int32)), .val (.ref b163), .val (.ref b172), .val (.int (F_hs8 (x1.toInt8.toInt32) (((x1.toUInt32 >>> ((8 : Int32) &&& 31).toUInt32).toInt32).toInt8.toInt32) (((x1.toUInt32 >>> ((16 : Int32) &&& 31).toUInt32).toInt32).toInt8.toInt32) (((x1.toUInt32 >>> ((24 : Int32) &&& 31).toUInt32).toInt32).toInt8.toInt32) (x2.toInt8.toInt32) (((x2.toUInt32 >>> ((8 : Int32) &&& 31).toUInt32).toInt32).toInt8.toInt32) (((x2.toUInt32 >>> ((16 : Int32) &&& 31).toUInt32).toInt32).toInt8.toInt32) (((x2.toUInt32 >>> ((24 : Int32) &&& 31).toUInt32).toInt32).toInt8.toInt32))), .val (.int ((F_ifx (F_hs8 (x1.toInt8.toInt32) (((x1.toUInt32 >>> ((8 : Int32) &&& 31).toUInt32).toInt32).toInt8.toInt32) (((x1.toUInt32 >>> ((16 : Int32) &&& 31).toUInt32).toInt32).toInt8.toInt32) (((x1.toUInt32 >>> ((24 : Int32) &&& 31).toUInt32).toInt32).toInt8.toInt32) (x2.toInt8.toInt32) (((x2.toUInt32 >>> ((8 : Int32) &&& 31).toUInt32).toInt32).toInt8.toInt32) (((x2.toUInt32 >>> ((16 : Int32) &&& 31).toUInt32).toInt32).toInt8.toInt32) (((x2.toUInt32 >>> ((24 : Int32) &&& 31).toUInt32).toInt32).toInt8.toInt32))) ^^^ (8 : Int32))), .unset] [(.ref b172)])) rfl (by rw [hml]; rfl) (argsL := [(.ref b172)]) (rest := []) (lenOf pd2 rfl) rfl (by show 2 * 0 + _ ≤ _; exact Nat.le_of_eq rfl) (hb hby at_245) (fun _ _ => ⟨rfl, eq181, (by decide : 2 + 0 ≤ _), (by decide : 12 + 0 ≤ _)⟩)
    dsimp only [Pt.U, Pt.locs, Pt.cells, Pt.slots] at X182 l182 y182 z182 st182 hQ182
    subst l182 y182 z182
    obtain ⟨rfl, N182q, eq182⟩ := hQ182
    have N182 := Fr.app N181 N182q
    refine own_go st182 ?_
    show own_Got p e below _ T182 (mkF m 248 #[.val (.int x0), .val (.int x1), .val (.int x2), .val (.int (8 : Int32)), .val (.ref b163), .val (.ref b172), .val (.int (F_hs8 (x1.toInt8.toInt32) (((x1.toUInt32 >>> ((8 : Int32) &&& 31).toUInt32).toInt32).toInt8.toInt32) (((x1.toUInt32 >>> ((16 : Int32) &&& 31).toUInt32).toInt32).toInt8.toInt32) (((x1.toUInt32 >>> ((24 : Int32) &&& 31).toUInt32).toInt32).toInt8.toInt32) (x2.toInt8.toInt32) (((x2.toUInt32 >>> ((8 : Int32) &&& 31).toUInt32).toInt32).toInt8.toInt32) (((x2.toUInt32 >>> ((16 : Int32) &&& 31).toUInt32).toInt32).toInt8.toInt32) (((x2.toUInt32 >>> ((24 : Int32) &&& 31).toUInt32).toInt32).toInt8.toInt32))), .val (.int ((F_ifx (F_hs8 (x1.toInt8.toInt32) (((x1.toUInt32 >>> ((8 : Int32) &&& 31).toUInt32).toInt32).toInt8.toInt32) (((x1.toUInt32 >>> ((16 : Int32) &&& 31).toUInt32).toInt32).toInt8.toInt32) (((x1.toUInt32 >>> ((24 : Int32) &&& 31).toUInt32).toInt32).toInt8.toInt32) (x2.toInt8.toInt32) (((x2.toUInt32 >>> ((8 : Int32) &&& 31).toUInt32).toInt32).toInt8.toInt32) (((x2.toUInt32 >>> ((16 : Int32) &&& 31).toUInt32).toInt32).toInt8.toInt32) (((x2.toUInt32 >>> ((24 : Int32) &&& 31).toUInt32).toInt32).toInt8.toInt32))) ^^^ (8 : Int32))), .unset] [(.int (F_hs4 (x1.toInt8.toInt32) (((x1.toUInt32 >>> ((8 : Int32) &&& 31).toUInt32).toInt32).toInt8.toInt32) (((x1.toUInt32 >>> ((16 : Int32) &&& 31).toUInt32).toInt32).toInt8.toInt32) (((x1.toUInt32 >>> ((24 : Int32) &&& 31).toUInt32).toInt32).toInt8.toInt32)))])
    obtain ⟨_, _, ⟨T183, L183, k183, n183⟩, -, X183, ⟨Lc183, hQ183, l183, y183, z183⟩, st183⟩ := Jvm.LawKit.callS X182 hx (y := (⟨"com/example/farshard/farshard/store/Murmur3Hash32PinLaw", "invFmix", "(I)I"⟩ : MethodName)) hown (mvT hZ (hw _ (List.mem_of_getElem? (i := 8) rfl))) (mvT hZ (hw _ (List.mem_of_getElem? (i := 9) rfl))) (mvT hZ (hw _ (List.mem_of_getElem? (i := 10) rfl))) (mvT hZ (hw _ (List.mem_of_getElem? (i := 11) rfl))) (by decide) (backOf (W := 0) (rm_ifx l Z aT hw [] (F_hs4 (x1.toInt8.toInt32) (((x1.toUInt32 >>> ((8 : Int32) &&& 31).toUInt32).toInt32).toInt8.toInt32) (((x1.toUInt32 >>> ((16 : Int32) &&& 31).toUInt32).toInt32).toInt8.toInt32) (((x1.toUInt32 >>> ((24 : Int32) &&& 31).toUInt32).toInt32).toInt8.toInt32)) h178 n0 Z178) hZ (hw _ (List.mem_of_getElem? (i := 11) rfl)) (hw _ (List.mem_of_getElem? (i := 10) rfl)) (by decide) (by decide)) (g := (mkF m 248 #[.val (.int x0), .val (.int x1), .val (.int x2), .val (.int (8 : Int32)), .val (.ref b163), .val (.ref b172), .val (.int (F_hs8 (x1.toInt8.toInt32) (((x1.toUInt32 >>> ((8 : Int32) &&& 31).toUInt32).toInt32).toInt8.toInt32) (((x1.toUInt32 >>> ((16 : Int32) &&& 31).toUInt32).toInt32).toInt8.toInt32) (((x1.toUInt32 >>> ((24 : Int32) &&& 31).toUInt32).toInt32).toInt8.toInt32) (x2.toInt8.toInt32) (((x2.toUInt32 >>> ((8 : Int32) &&& 31).toUInt32).toInt32).toInt8.toInt32) (((x2.toUInt32 >>> ((16 : Int32) &&& 31).toUInt32).toInt32).toInt8.toInt32) (((x2.toUInt32 >>> ((24 : Int32) &&& 31).toUInt32).toInt32).toInt8.toInt32))), .val (.int ((F_ifx (F_hs8 (x1.toInt8.toInt32) (((x1.toUInt32 >>> ((8 : Int32) &&& 31).toUInt32).toInt32).toInt8.toInt32) (((x1.toUInt32 >>> ((16 : Int32) &&& 31).toUInt32).toInt32).toInt8.toInt32) (((x1.toUInt32 >>> ((24 : Int32) &&& 31).toUInt32).toInt32).toInt8.toInt32) (x2.toInt8.toInt32) (((x2.toUInt32 >>> ((8 : Int32) &&& 31).toUInt32).toInt32).toInt8.toInt32) (((x2.toUInt32 >>> ((16 : Int32) &&& 31).toUInt32).toInt32).toInt8.toInt32) (((x2.toUInt32 >>> ((24 : Int32) &&& 31).toUInt32).toInt32).toInt8.toInt32))) ^^^ (8 : Int32))), .unset] [(.int (F_hs4 (x1.toInt8.toInt32) (((x1.toUInt32 >>> ((8 : Int32) &&& 31).toUInt32).toInt32).toInt8.toInt32) (((x1.toUInt32 >>> ((16 : Int32) &&& 31).toUInt32).toInt32).toInt8.toInt32) (((x1.toUInt32 >>> ((24 : Int32) &&& 31).toUInt32).toInt32).toInt8.toInt32)))])) rfl (by rw [hml]; rfl) (argsL := [(.int (F_hs4 (x1.toInt8.toInt32) (((x1.toUInt32 >>> ((8 : Int32) &&& 31).toUInt32).toInt32).toInt8.toInt32) (((x1.toUInt32 >>> ((16 : Int32) &&& 31).toUInt32).toInt32).toInt8.toInt32) (((x1.toUInt32 >>> ((24 : Int32) &&& 31).toUInt32).toInt32).toInt8.toInt32)))]) (rest := []) (lenOf pd1 rfl) rfl (by show 2 * 0 + _ ≤ _; exact Nat.le_of_eq rfl) (hb hby at_248) (fun _ _ => ⟨rfl, eq182, (by decide : 2 + 0 ≤ _), (by decide : 12 + 0 ≤ _)⟩)
    dsimp only [Pt.U, Pt.locs, Pt.cells, Pt.slots] at X183 l183 y183 z183 st183 hQ183
    subst l183 y183 z183
    obtain ⟨rfl, N183q, eq183⟩ := hQ183
    have N183 := Fr.app N182 N183q
    refine own_go st183 ?_
    show own_Got p e below _ T183 (mkF m 251 #[.val (.int x0), .val (.int x1), .val (.int x2), .val (.int (8 : Int32)), .val (.ref b163), .val (.ref b172), .val (.int (F_hs8 (x1.toInt8.toInt32) (((x1.toUInt32 >>> ((8 : Int32) &&& 31).toUInt32).toInt32).toInt8.toInt32) (((x1.toUInt32 >>> ((16 : Int32) &&& 31).toUInt32).toInt32).toInt8.toInt32) (((x1.toUInt32 >>> ((24 : Int32) &&& 31).toUInt32).toInt32).toInt8.toInt32) (x2.toInt8.toInt32) (((x2.toUInt32 >>> ((8 : Int32) &&& 31).toUInt32).toInt32).toInt8.toInt32) (((x2.toUInt32 >>> ((16 : Int32) &&& 31).toUInt32).toInt32).toInt8.toInt32) (((x2.toUInt32 >>> ((24 : Int32) &&& 31).toUInt32).toInt32).toInt8.toInt32))), .val (.int ((F_ifx (F_hs8 (x1.toInt8.toInt32) (((x1.toUInt32 >>> ((8 : Int32) &&& 31).toUInt32).toInt32).toInt8.toInt32) (((x1.toUInt32 >>> ((16 : Int32) &&& 31).toUInt32).toInt32).toInt8.toInt32) (((x1.toUInt32 >>> ((24 : Int32) &&& 31).toUInt32).toInt32).toInt8.toInt32) (x2.toInt8.toInt32) (((x2.toUInt32 >>> ((8 : Int32) &&& 31).toUInt32).toInt32).toInt8.toInt32) (((x2.toUInt32 >>> ((16 : Int32) &&& 31).toUInt32).toInt32).toInt8.toInt32) (((x2.toUInt32 >>> ((24 : Int32) &&& 31).toUInt32).toInt32).toInt8.toInt32))) ^^^ (8 : Int32))), .unset] [(.int (F_ifx (F_hs4 (x1.toInt8.toInt32) (((x1.toUInt32 >>> ((8 : Int32) &&& 31).toUInt32).toInt32).toInt8.toInt32) (((x1.toUInt32 >>> ((16 : Int32) &&& 31).toUInt32).toInt32).toInt8.toInt32) (((x1.toUInt32 >>> ((24 : Int32) &&& 31).toUInt32).toInt32).toInt8.toInt32))))])
    refine g_iconst X183 hx hby (4 : Int32) at_251 (by decide) (rfl : 251 + 1 = 252) ?_
    refine g_ixor X183 hx hby at_252 (rfl : 252 + 1 = 253) ?_
    refine g_istore X183 hx hby #[.val (.int x0), .val (.int x1), .val (.int x2), .val (.int (8 : Int32)), .val (.ref b163), .val (.ref b172), .val (.int (F_hs8 (x1.toInt8.toInt32) (((x1.toUInt32 >>> ((8 : Int32) &&& 31).toUInt32).toInt32).toInt8.toInt32) (((x1.toUInt32 >>> ((16 : Int32) &&& 31).toUInt32).toInt32).toInt8.toInt32) (((x1.toUInt32 >>> ((24 : Int32) &&& 31).toUInt32).toInt32).toInt8.toInt32) (x2.toInt8.toInt32) (((x2.toUInt32 >>> ((8 : Int32) &&& 31).toUInt32).toInt32).toInt8.toInt32) (((x2.toUInt32 >>> ((16 : Int32) &&& 31).toUInt32).toInt32).toInt8.toInt32) (((x2.toUInt32 >>> ((24 : Int32) &&& 31).toUInt32).toInt32).toInt8.toInt32))), .val (.int ((F_ifx (F_hs8 (x1.toInt8.toInt32) (((x1.toUInt32 >>> ((8 : Int32) &&& 31).toUInt32).toInt32).toInt8.toInt32) (((x1.toUInt32 >>> ((16 : Int32) &&& 31).toUInt32).toInt32).toInt8.toInt32) (((x1.toUInt32 >>> ((24 : Int32) &&& 31).toUInt32).toInt32).toInt8.toInt32) (x2.toInt8.toInt32) (((x2.toUInt32 >>> ((8 : Int32) &&& 31).toUInt32).toInt32).toInt8.toInt32) (((x2.toUInt32 >>> ((16 : Int32) &&& 31).toUInt32).toInt32).toInt8.toInt32) (((x2.toUInt32 >>> ((24 : Int32) &&& 31).toUInt32).toInt32).toInt8.toInt32))) ^^^ (8 : Int32))), .val (.int ((F_ifx (F_hs4 (x1.toInt8.toInt32) (((x1.toUInt32 >>> ((8 : Int32) &&& 31).toUInt32).toInt32).toInt8.toInt32) (((x1.toUInt32 >>> ((16 : Int32) &&& 31).toUInt32).toInt32).toInt8.toInt32) (((x1.toUInt32 >>> ((24 : Int32) &&& 31).toUInt32).toInt32).toInt8.toInt32))) ^^^ (4 : Int32)))] at_253 rfl (rfl : 253 + 2 = 255) ?_
    refine g_iloadN X183 hx hby at_255 rfl (rfl : 255 + 1 = 256) ?_
    refine g_bipush X183 hx hby (8 : Int32) at_256 (by decide) (rfl : 256 + 2 = 258) ?_
    refine g_icT X183 hx hby at_258 (flt (by decide : ¬ ((8 : Int32) < (8 : Int32)))).2.1 (by decide) (pc' := 290) (by decide) ?_
    refine g_iload X183 hx hby at_290 rfl (rfl : 290 + 2 = 292) ?_
    obtain ⟨_, _, ⟨T184, L184, k184, n184⟩, -, X184, ⟨Lc184, hQ184, l184, y184, z184⟩, st184⟩ := Jvm.LawKit.callS X183 hx (y := (⟨"com/example/farshard/farshard/store/Murmur3Hash32PinLaw", "invStep", "(I)I"⟩ : MethodName)) hown (mvT hZ (hw _ (List.mem_of_getElem? (i := 32) rfl))) (mvT hZ (hw _ (List.mem_of_getElem? (i := 33) rfl))) (mvT hZ (hw _ (List.mem_of_getElem? (i := 10) rfl))) (mvT hZ (hw _ (List.mem_of_getElem? (i := 34) rfl))) (by decide) (backOf (W := 0) (rm_ist l Z aT hw [] ((F_ifx (F_hs8 (x1.toInt8.toInt32) (((x1.toUInt32 >>> ((8 : Int32) &&& 31).toUInt32).toInt32).toInt8.toInt32) (((x1.toUInt32 >>> ((16 : Int32) &&& 31).toUInt32).toInt32).toInt8.toInt32) (((x1.toUInt32 >>> ((24 : Int32) &&& 31).toUInt32).toInt32).toInt8.toInt32) (x2.toInt8.toInt32) (((x2.toUInt32 >>> ((8 : Int32) &&& 31).toUInt32).toInt32).toInt8.toInt32) (((x2.toUInt32 >>> ((16 : Int32) &&& 31).toUInt32).toInt32).toInt8.toInt32) (((x2.toUInt32 >>> ((24 : Int32) &&& 31).toUInt32).toInt32).toInt8.toInt32))) ^^^ (8 : Int32)) h178 n0 Z178) hZ (hw _ (List.mem_of_getElem? (i := 34) rfl)) (hw _ (List.mem_of_getElem? (i := 10) rfl)) (by decide) (by decide)) (g := (mkF m 292 #[.val (.int x0), .val (.int x1), .val (.int x2), .val (.int (8 : Int32)), .val (.ref b163), .val (.ref b172), .val (.int (F_hs8 (x1.toInt8.toInt32) (((x1.toUInt32 >>> ((8 : Int32) &&& 31).toUInt32).toInt32).toInt8.toInt32) (((x1.toUInt32 >>> ((16 : Int32) &&& 31).toUInt32).toInt32).toInt8.toInt32) (((x1.toUInt32 >>> ((24 : Int32) &&& 31).toUInt32).toInt32).toInt8.toInt32) (x2.toInt8.toInt32) (((x2.toUInt32 >>> ((8 : Int32) &&& 31).toUInt32).toInt32).toInt8.toInt32) (((x2.toUInt32 >>> ((16 : Int32) &&& 31).toUInt32).toInt32).toInt8.toInt32) (((x2.toUInt32 >>> ((24 : Int32) &&& 31).toUInt32).toInt32).toInt8.toInt32))), .val (.int ((F_ifx (F_hs8 (x1.toInt8.toInt32) (((x1.toUInt32 >>> ((8 : Int32) &&& 31).toUInt32).toInt32).toInt8.toInt32) (((x1.toUInt32 >>> ((16 : Int32) &&& 31).toUInt32).toInt32).toInt8.toInt32) (((x1.toUInt32 >>> ((24 : Int32) &&& 31).toUInt32).toInt32).toInt8.toInt32) (x2.toInt8.toInt32) (((x2.toUInt32 >>> ((8 : Int32) &&& 31).toUInt32).toInt32).toInt8.toInt32) (((x2.toUInt32 >>> ((16 : Int32) &&& 31).toUInt32).toInt32).toInt8.toInt32) (((x2.toUInt32 >>> ((24 : Int32) &&& 31).toUInt32).toInt32).toInt8.toInt32))) ^^^ (8 : Int32))), .val (.int ((F_ifx (F_hs4 (x1.toInt8.toInt32) (((x1.toUInt32 >>> ((8 : Int32) &&& 31).toUInt32).toInt32).toInt8.toInt32) (((x1.toUInt32 >>> ((16 : Int32) &&& 31).toUInt32).toInt32).toInt8.toInt32) (((x1.toUInt32 >>> ((24 : Int32) &&& 31).toUInt32).toInt32).toInt8.toInt32))) ^^^ (4 : Int32)))] [(.int ((F_ifx (F_hs8 (x1.toInt8.toInt32) (((x1.toUInt32 >>> ((8 : Int32) &&& 31).toUInt32).toInt32).toInt8.toInt32) (((x1.toUInt32 >>> ((16 : Int32) &&& 31).toUInt32).toInt32).toInt8.toInt32) (((x1.toUInt32 >>> ((24 : Int32) &&& 31).toUInt32).toInt32).toInt8.toInt32) (x2.toInt8.toInt32) (((x2.toUInt32 >>> ((8 : Int32) &&& 31).toUInt32).toInt32).toInt8.toInt32) (((x2.toUInt32 >>> ((16 : Int32) &&& 31).toUInt32).toInt32).toInt8.toInt32) (((x2.toUInt32 >>> ((24 : Int32) &&& 31).toUInt32).toInt32).toInt8.toInt32))) ^^^ (8 : Int32)))])) rfl (by rw [hml]; rfl) (argsL := [(.int ((F_ifx (F_hs8 (x1.toInt8.toInt32) (((x1.toUInt32 >>> ((8 : Int32) &&& 31).toUInt32).toInt32).toInt8.toInt32) (((x1.toUInt32 >>> ((16 : Int32) &&& 31).toUInt32).toInt32).toInt8.toInt32) (((x1.toUInt32 >>> ((24 : Int32) &&& 31).toUInt32).toInt32).toInt8.toInt32) (x2.toInt8.toInt32) (((x2.toUInt32 >>> ((8 : Int32) &&& 31).toUInt32).toInt32).toInt8.toInt32) (((x2.toUInt32 >>> ((16 : Int32) &&& 31).toUInt32).toInt32).toInt8.toInt32) (((x2.toUInt32 >>> ((24 : Int32) &&& 31).toUInt32).toInt32).toInt8.toInt32))) ^^^ (8 : Int32)))]) (rest := []) (lenOf pd1 rfl) rfl (by show 2 * 0 + _ ≤ _; exact Nat.le_of_eq rfl) (hb hby at_292) (fun _ _ => ⟨rfl, eq183, (by decide : 2 + 0 ≤ _), (by decide : 12 + 0 ≤ _)⟩)
    dsimp only [Pt.U, Pt.locs, Pt.cells, Pt.slots] at X184 l184 y184 z184 st184 hQ184
    subst l184 y184 z184
    obtain ⟨rfl, N184q, eq184⟩ := hQ184
    have N184 := Fr.app N183 N184q
    refine own_go st184 ?_
    show own_Got p e below _ T184 (mkF m 295 #[.val (.int x0), .val (.int x1), .val (.int x2), .val (.int (8 : Int32)), .val (.ref b163), .val (.ref b172), .val (.int (F_hs8 (x1.toInt8.toInt32) (((x1.toUInt32 >>> ((8 : Int32) &&& 31).toUInt32).toInt32).toInt8.toInt32) (((x1.toUInt32 >>> ((16 : Int32) &&& 31).toUInt32).toInt32).toInt8.toInt32) (((x1.toUInt32 >>> ((24 : Int32) &&& 31).toUInt32).toInt32).toInt8.toInt32) (x2.toInt8.toInt32) (((x2.toUInt32 >>> ((8 : Int32) &&& 31).toUInt32).toInt32).toInt8.toInt32) (((x2.toUInt32 >>> ((16 : Int32) &&& 31).toUInt32).toInt32).toInt8.toInt32) (((x2.toUInt32 >>> ((24 : Int32) &&& 31).toUInt32).toInt32).toInt8.toInt32))), .val (.int ((F_ifx (F_hs8 (x1.toInt8.toInt32) (((x1.toUInt32 >>> ((8 : Int32) &&& 31).toUInt32).toInt32).toInt8.toInt32) (((x1.toUInt32 >>> ((16 : Int32) &&& 31).toUInt32).toInt32).toInt8.toInt32) (((x1.toUInt32 >>> ((24 : Int32) &&& 31).toUInt32).toInt32).toInt8.toInt32) (x2.toInt8.toInt32) (((x2.toUInt32 >>> ((8 : Int32) &&& 31).toUInt32).toInt32).toInt8.toInt32) (((x2.toUInt32 >>> ((16 : Int32) &&& 31).toUInt32).toInt32).toInt8.toInt32) (((x2.toUInt32 >>> ((24 : Int32) &&& 31).toUInt32).toInt32).toInt8.toInt32))) ^^^ (8 : Int32))), .val (.int ((F_ifx (F_hs4 (x1.toInt8.toInt32) (((x1.toUInt32 >>> ((8 : Int32) &&& 31).toUInt32).toInt32).toInt8.toInt32) (((x1.toUInt32 >>> ((16 : Int32) &&& 31).toUInt32).toInt32).toInt8.toInt32) (((x1.toUInt32 >>> ((24 : Int32) &&& 31).toUInt32).toInt32).toInt8.toInt32))) ^^^ (4 : Int32)))] [(.int (F_ist ((F_ifx (F_hs8 (x1.toInt8.toInt32) (((x1.toUInt32 >>> ((8 : Int32) &&& 31).toUInt32).toInt32).toInt8.toInt32) (((x1.toUInt32 >>> ((16 : Int32) &&& 31).toUInt32).toInt32).toInt8.toInt32) (((x1.toUInt32 >>> ((24 : Int32) &&& 31).toUInt32).toInt32).toInt8.toInt32) (x2.toInt8.toInt32) (((x2.toUInt32 >>> ((8 : Int32) &&& 31).toUInt32).toInt32).toInt8.toInt32) (((x2.toUInt32 >>> ((16 : Int32) &&& 31).toUInt32).toInt32).toInt8.toInt32) (((x2.toUInt32 >>> ((24 : Int32) &&& 31).toUInt32).toInt32).toInt8.toInt32))) ^^^ (8 : Int32))))])
    refine g_iload X184 hx hby at_295 rfl (rfl : 295 + 2 = 297) ?_
    refine g_ixor X184 hx hby at_297 (rfl : 297 + 1 = 298) ?_
    obtain ⟨_, _, ⟨T185, L185, k185, n185⟩, -, X185, ⟨Lc185, hQ185, l185, y185, z185⟩, st185⟩ := Jvm.LawKit.callS X184 hx (y := (⟨"com/example/farshard/farshard/store/Murmur3Hash32PinLaw", "invMix", "(I)I"⟩ : MethodName)) hown (mvT hZ (hw _ (List.mem_of_getElem? (i := 26) rfl))) (mvT hZ (hw _ (List.mem_of_getElem? (i := 27) rfl))) (mvT hZ (hw _ (List.mem_of_getElem? (i := 10) rfl))) (mvT hZ (hw _ (List.mem_of_getElem? (i := 28) rfl))) (by decide) (backOf (W := 0) (rm_imx l Z aT hw [] ((F_ist ((F_ifx (F_hs8 (x1.toInt8.toInt32) (((x1.toUInt32 >>> ((8 : Int32) &&& 31).toUInt32).toInt32).toInt8.toInt32) (((x1.toUInt32 >>> ((16 : Int32) &&& 31).toUInt32).toInt32).toInt8.toInt32) (((x1.toUInt32 >>> ((24 : Int32) &&& 31).toUInt32).toInt32).toInt8.toInt32) (x2.toInt8.toInt32) (((x2.toUInt32 >>> ((8 : Int32) &&& 31).toUInt32).toInt32).toInt8.toInt32) (((x2.toUInt32 >>> ((16 : Int32) &&& 31).toUInt32).toInt32).toInt8.toInt32) (((x2.toUInt32 >>> ((24 : Int32) &&& 31).toUInt32).toInt32).toInt8.toInt32))) ^^^ (8 : Int32))) ^^^ ((F_ifx (F_hs4 (x1.toInt8.toInt32) (((x1.toUInt32 >>> ((8 : Int32) &&& 31).toUInt32).toInt32).toInt8.toInt32) (((x1.toUInt32 >>> ((16 : Int32) &&& 31).toUInt32).toInt32).toInt8.toInt32) (((x1.toUInt32 >>> ((24 : Int32) &&& 31).toUInt32).toInt32).toInt8.toInt32))) ^^^ (4 : Int32))) h178 n0 Z178) hZ (hw _ (List.mem_of_getElem? (i := 28) rfl)) (hw _ (List.mem_of_getElem? (i := 10) rfl)) (by decide) (by decide)) (g := (mkF m 298 #[.val (.int x0), .val (.int x1), .val (.int x2), .val (.int (8 : Int32)), .val (.ref b163), .val (.ref b172), .val (.int (F_hs8 (x1.toInt8.toInt32) (((x1.toUInt32 >>> ((8 : Int32) &&& 31).toUInt32).toInt32).toInt8.toInt32) (((x1.toUInt32 >>> ((16 : Int32) &&& 31).toUInt32).toInt32).toInt8.toInt32) (((x1.toUInt32 >>> ((24 : Int32) &&& 31).toUInt32).toInt32).toInt8.toInt32) (x2.toInt8.toInt32) (((x2.toUInt32 >>> ((8 : Int32) &&& 31).toUInt32).toInt32).toInt8.toInt32) (((x2.toUInt32 >>> ((16 : Int32) &&& 31).toUInt32).toInt32).toInt8.toInt32) (((x2.toUInt32 >>> ((24 : Int32) &&& 31).toUInt32).toInt32).toInt8.toInt32))), .val (.int ((F_ifx (F_hs8 (x1.toInt8.toInt32) (((x1.toUInt32 >>> ((8 : Int32) &&& 31).toUInt32).toInt32).toInt8.toInt32) (((x1.toUInt32 >>> ((16 : Int32) &&& 31).toUInt32).toInt32).toInt8.toInt32) (((x1.toUInt32 >>> ((24 : Int32) &&& 31).toUInt32).toInt32).toInt8.toInt32) (x2.toInt8.toInt32) (((x2.toUInt32 >>> ((8 : Int32) &&& 31).toUInt32).toInt32).toInt8.toInt32) (((x2.toUInt32 >>> ((16 : Int32) &&& 31).toUInt32).toInt32).toInt8.toInt32) (((x2.toUInt32 >>> ((24 : Int32) &&& 31).toUInt32).toInt32).toInt8.toInt32))) ^^^ (8 : Int32))), .val (.int ((F_ifx (F_hs4 (x1.toInt8.toInt32) (((x1.toUInt32 >>> ((8 : Int32) &&& 31).toUInt32).toInt32).toInt8.toInt32) (((x1.toUInt32 >>> ((16 : Int32) &&& 31).toUInt32).toInt32).toInt8.toInt32) (((x1.toUInt32 >>> ((24 : Int32) &&& 31).toUInt32).toInt32).toInt8.toInt32))) ^^^ (4 : Int32)))] [(.int ((F_ist ((F_ifx (F_hs8 (x1.toInt8.toInt32) (((x1.toUInt32 >>> ((8 : Int32) &&& 31).toUInt32).toInt32).toInt8.toInt32) (((x1.toUInt32 >>> ((16 : Int32) &&& 31).toUInt32).toInt32).toInt8.toInt32) (((x1.toUInt32 >>> ((24 : Int32) &&& 31).toUInt32).toInt32).toInt8.toInt32) (x2.toInt8.toInt32) (((x2.toUInt32 >>> ((8 : Int32) &&& 31).toUInt32).toInt32).toInt8.toInt32) (((x2.toUInt32 >>> ((16 : Int32) &&& 31).toUInt32).toInt32).toInt8.toInt32) (((x2.toUInt32 >>> ((24 : Int32) &&& 31).toUInt32).toInt32).toInt8.toInt32))) ^^^ (8 : Int32))) ^^^ ((F_ifx (F_hs4 (x1.toInt8.toInt32) (((x1.toUInt32 >>> ((8 : Int32) &&& 31).toUInt32).toInt32).toInt8.toInt32) (((x1.toUInt32 >>> ((16 : Int32) &&& 31).toUInt32).toInt32).toInt8.toInt32) (((x1.toUInt32 >>> ((24 : Int32) &&& 31).toUInt32).toInt32).toInt8.toInt32))) ^^^ (4 : Int32))))])) rfl (by rw [hml]; rfl) (argsL := [(.int ((F_ist ((F_ifx (F_hs8 (x1.toInt8.toInt32) (((x1.toUInt32 >>> ((8 : Int32) &&& 31).toUInt32).toInt32).toInt8.toInt32) (((x1.toUInt32 >>> ((16 : Int32) &&& 31).toUInt32).toInt32).toInt8.toInt32) (((x1.toUInt32 >>> ((24 : Int32) &&& 31).toUInt32).toInt32).toInt8.toInt32) (x2.toInt8.toInt32) (((x2.toUInt32 >>> ((8 : Int32) &&& 31).toUInt32).toInt32).toInt8.toInt32) (((x2.toUInt32 >>> ((16 : Int32) &&& 31).toUInt32).toInt32).toInt8.toInt32) (((x2.toUInt32 >>> ((24 : Int32) &&& 31).toUInt32).toInt32).toInt8.toInt32))) ^^^ (8 : Int32))) ^^^ ((F_ifx (F_hs4 (x1.toInt8.toInt32) (((x1.toUInt32 >>> ((8 : Int32) &&& 31).toUInt32).toInt32).toInt8.toInt32) (((x1.toUInt32 >>> ((16 : Int32) &&& 31).toUInt32).toInt32).toInt8.toInt32) (((x1.toUInt32 >>> ((24 : Int32) &&& 31).toUInt32).toInt32).toInt8.toInt32))) ^^^ (4 : Int32))))]) (rest := []) (lenOf pd1 rfl) rfl (by show 2 * 0 + _ ≤ _; exact Nat.le_of_eq rfl) (hb hby at_298) (fun _ _ => ⟨rfl, eq184, (by decide : 2 + 0 ≤ _), (by decide : 12 + 0 ≤ _)⟩)
    dsimp only [Pt.U, Pt.locs, Pt.cells, Pt.slots] at X185 l185 y185 z185 st185 hQ185
    subst l185 y185 z185
    obtain ⟨rfl, N185q, eq185⟩ := hQ185
    have N185 := Fr.app N184 N185q
    refine own_go st185 ?_
    show own_Got p e below _ T185 (mkF m 301 #[.val (.int x0), .val (.int x1), .val (.int x2), .val (.int (8 : Int32)), .val (.ref b163), .val (.ref b172), .val (.int (F_hs8 (x1.toInt8.toInt32) (((x1.toUInt32 >>> ((8 : Int32) &&& 31).toUInt32).toInt32).toInt8.toInt32) (((x1.toUInt32 >>> ((16 : Int32) &&& 31).toUInt32).toInt32).toInt8.toInt32) (((x1.toUInt32 >>> ((24 : Int32) &&& 31).toUInt32).toInt32).toInt8.toInt32) (x2.toInt8.toInt32) (((x2.toUInt32 >>> ((8 : Int32) &&& 31).toUInt32).toInt32).toInt8.toInt32) (((x2.toUInt32 >>> ((16 : Int32) &&& 31).toUInt32).toInt32).toInt8.toInt32) (((x2.toUInt32 >>> ((24 : Int32) &&& 31).toUInt32).toInt32).toInt8.toInt32))), .val (.int ((F_ifx (F_hs8 (x1.toInt8.toInt32) (((x1.toUInt32 >>> ((8 : Int32) &&& 31).toUInt32).toInt32).toInt8.toInt32) (((x1.toUInt32 >>> ((16 : Int32) &&& 31).toUInt32).toInt32).toInt8.toInt32) (((x1.toUInt32 >>> ((24 : Int32) &&& 31).toUInt32).toInt32).toInt8.toInt32) (x2.toInt8.toInt32) (((x2.toUInt32 >>> ((8 : Int32) &&& 31).toUInt32).toInt32).toInt8.toInt32) (((x2.toUInt32 >>> ((16 : Int32) &&& 31).toUInt32).toInt32).toInt8.toInt32) (((x2.toUInt32 >>> ((24 : Int32) &&& 31).toUInt32).toInt32).toInt8.toInt32))) ^^^ (8 : Int32))), .val (.int ((F_ifx (F_hs4 (x1.toInt8.toInt32) (((x1.toUInt32 >>> ((8 : Int32) &&& 31).toUInt32).toInt32).toInt8.toInt32) (((x1.toUInt32 >>> ((16 : Int32) &&& 31).toUInt32).toInt32).toInt8.toInt32) (((x1.toUInt32 >>> ((24 : Int32) &&& 31).toUInt32).toInt32).toInt8.toInt32))) ^^^ (4 : Int32)))] [(.int (F_imx ((F_ist ((F_ifx (F_hs8 (x1.toInt8.toInt32) (((x1.toUInt32 >>> ((8 : Int32) &&& 31).toUInt32).toInt32).toInt8.toInt32) (((x1.toUInt32 >>> ((16 : Int32) &&& 31).toUInt32).toInt32).toInt8.toInt32) (((x1.toUInt32 >>> ((24 : Int32) &&& 31).toUInt32).toInt32).toInt8.toInt32) (x2.toInt8.toInt32) (((x2.toUInt32 >>> ((8 : Int32) &&& 31).toUInt32).toInt32).toInt8.toInt32) (((x2.toUInt32 >>> ((16 : Int32) &&& 31).toUInt32).toInt32).toInt8.toInt32) (((x2.toUInt32 >>> ((24 : Int32) &&& 31).toUInt32).toInt32).toInt8.toInt32))) ^^^ (8 : Int32))) ^^^ ((F_ifx (F_hs4 (x1.toInt8.toInt32) (((x1.toUInt32 >>> ((8 : Int32) &&& 31).toUInt32).toInt32).toInt8.toInt32) (((x1.toUInt32 >>> ((16 : Int32) &&& 31).toUInt32).toInt32).toInt8.toInt32) (((x1.toUInt32 >>> ((24 : Int32) &&& 31).toUInt32).toInt32).toInt8.toInt32))) ^^^ (4 : Int32)))))])
    refine g_iloadN X185 hx hby at_301 rfl (rfl : 301 + 1 = 302) ?_
    have c186 : (F_imx ((F_ist ((F_ifx (F_hs8 (x1.toInt8.toInt32) (((x1.toUInt32 >>> ((8 : Int32) &&& 31).toUInt32).toInt32).toInt8.toInt32) (((x1.toUInt32 >>> ((16 : Int32) &&& 31).toUInt32).toInt32).toInt8.toInt32) (((x1.toUInt32 >>> ((24 : Int32) &&& 31).toUInt32).toInt32).toInt8.toInt32) (x2.toInt8.toInt32) (((x2.toUInt32 >>> ((8 : Int32) &&& 31).toUInt32).toInt32).toInt8.toInt32) (((x2.toUInt32 >>> ((16 : Int32) &&& 31).toUInt32).toInt32).toInt8.toInt32) (((x2.toUInt32 >>> ((24 : Int32) &&& 31).toUInt32).toInt32).toInt8.toInt32))) ^^^ (8 : Int32))) ^^^ ((F_ifx (F_hs4 (x1.toInt8.toInt32) (((x1.toUInt32 >>> ((8 : Int32) &&& 31).toUInt32).toInt32).toInt8.toInt32) (((x1.toUInt32 >>> ((16 : Int32) &&& 31).toUInt32).toInt32).toInt8.toInt32) (((x1.toUInt32 >>> ((24 : Int32) &&& 31).toUInt32).toInt32).toInt8.toInt32))) ^^^ (4 : Int32)))) = x2 := own_h8 x1 x2
    refine g_icF X185 hx hby at_302 (teq c186).2 (rfl : 302 + 3 = 305) ?_
    refine g_iconst X185 hx hby (1 : Int32) at_305 (by decide) (rfl : 305 + 1 = 306) ?_
    refine g_goto X185 hx hby at_306 (by decide) (pc' := 310) (by decide) ?_
    refine own_retN X185 hx hby hlk (t := .boolean) hrt (by simp) at_310 (by decide) (by decide) ?_
    show Q_law Z x0 x1 x2 h0 n0 _ T185.heap _
    exact ⟨rfl, N185⟩
set_option maxRecDepth 65536 in
set_option maxHeartbeats 40000000 in
theorem comes_1 {Post : Tables → Env → Array Value → State → Outcome → State → Prop} (hpost : ∀ tb e args s v u, (limb_1_1.after args s (.returned v) u = true ∧ limb_1_2.after args s (.returned v) u = true ∧ True) → FrameEnd s (.returned v) u (Jvm.fieldLocs frame_1_writes args s ++ Jvm.arrayLocs frame_1_arrays args s ++ Jvm.staticLocs frame_1_statics s) 16 128 → Post tb e args s (.returned v) u) :
    ArmFor flags0 classFile x code maxLocals ret World_1 tables_1 room_1 Calls_1 rest_1 Pre_1 Post := by
  intro l hfl _ _ p e ha hc hk s m args below hf hA hF happ hP
  obtain ⟨hcalls, hrest, hpre⟩ := hP
  obtain ⟨-, -, -, hnamed, -, -, -, hat⟩ := (Spec.applies_iff hf).mp happ
  obtain ⟨hg, hn⟩ := and_e (Cond.before_iff.mp (show (Jvm.Cond.and given_1 narrow_1).before args s = true from hpre))
  obtain ⟨hcnt, hg0⟩ := and_e hg
  obtain ⟨ha0, hg1⟩ := and_e hg0
  obtain ⟨ha1, hg2⟩ := and_e hg1
  obtain ⟨w0, w1, w2, rfl⟩ : ∃ w0 w1 w2 : Value, args = #[w0, w1, w2] := by
    have hs : args.size = 3 := by simpa [Cond.value, given_1] using hcnt
    obtain ⟨L⟩ := args
    match L, hs with
    | [w0, w1, w2], _ => exact ⟨w0, w1, w2, rfl⟩
  have hw := fun d (hd : d ∈ tables_1) => atoms_spec (ws := Jvm.Cond.code x code maxLocals ret :: tables_1) hat d (List.mem_cons_of_mem _ hd)
  have hfit : Fit s := fun {y c} hc i hi => by
    obtain ⟨ha, rfl⟩ := Array.getElem?_eq_some_iff.mp hc
    have q := List.all_eq_true.mp ((Array.all_eq_true_iff_forall_mem.mp hF) _ (Array.getElem_mem ha)) i (List.mem_range.mpr hi)
    simpa [Array.getElem?_eq_getElem hi] using q
  obtain ⟨i0, ei0⟩ := is_v ha0
  obtain rfl : w0 = (.int i0) := Option.some.inj ei0
  obtain ⟨i1, ei1⟩ := is_v ha1
  obtain rfl : w1 = (.int i1) := Option.some.inj ei1
  obtain ⟨i2, ei2⟩ := is_v hg2
  obtain rfl : w2 = (.int i2) := Option.some.inj ei2
  obtain ⟨n, o, h1, h2, h3, _, L, rfl, ⟨hv, N⟩, hq⟩ := rm_law l s _ hw tables_1 i0 i1 i2 s.heap s.heap.size (Nat.le_refl _)  p e ha hc hk s m _ below hf ((Spec.applies_iff_loose hf).mp happ).1 ⟨rfl, State.Warmed39.refl s, rfl⟩ trivial
  subst hv
  refine ⟨n, _, h1, h2, h3, hpost _ _ _ _ _ _ ⟨Cond.after_iff.mpr rfl, Cond.after_iff.mpr (eq_i res_at (Term.int_eval (1)) rfl), trivial⟩ ⟨hq.1, hq.2.1, (hq.2.2.sift fun y hy => Or.inr (N y hy)).mono (by decide) (by decide)⟩⟩
theorem main_1_1 : Claimed_1_1 := comes_1 fun _ _ _ _ _ _ h hF => ⟨h.1, hF⟩
theorem main_1_2 : Claimed_1_2 := comes_1 fun _ _ _ _ _ _ h hF => ⟨h.2.1, hF⟩
end Jvm.Pilot.@@N@@
namespace Jvm.Pilot.@@N@@
open Jvm Jvm.ClassFile Sem Op Lib Jvm.Free Jvm.Stand Jvm.Pilot.@@N@@.Jvm.D
/-! MADE BY PROGRAM (witnessworld.py) out of the Statement's table words and the real class files: 14 classes; the members and pool entries that the words name. The judged class is class 1, her method 5. -/
namespace start1
open Jvm.ClassFile
def u (s : String) : CpInfo := .utf8 (stringToUtf16 s)
/-- a pool by its gaps: so many unusable entries, then the entry; so many at the end -/
def gap : Nat → List CpInfo → List CpInfo
  | 0, r => r
  | n + 1, r => .unusable :: gap n r
def poolList (es : List (Nat × CpInfo)) (last : Nat) : List CpInfo := es.foldr (fun e r => gap e.1 (e.2 :: r)) (gap last [])
def pool (es : List (Nat × CpInfo)) (last : Nat) : Array CpInfo := ⟨poolList es last⟩
def fileOf (pool : Array CpInfo) (this : Nat) (attrs : Array Attribute := #[]) (ms : Array MethodInfo := #[]) (fl : Nat := 33) (sup : Nat := 0) (ifs : Array Nat := #[]) (fds : Array FieldInfo := #[]) : ClassFile where
  minorVersion := 0
  majorVersion := 65
  constantPool := pool
  accessFlags := fl
  thisClass := this
  superClass := sup
  interfaces := ifs
  fields := fds
  methods := ms
  attributes := attrs
def plain (name : String) (sup : Option ClassId) : Class where
  name := name
  kind := .ordinary
  loader := none
  accessFlags := 33
  super := sup
  interfaces := #[]
  cf := none
  fields := #[]
  methods := #[]
  instanceTypes := #[]
  staticTypes := #[]
  resolved := #[]
  callSites := []
  init := .initialized
  statics := none
  mirror := none

def pool0 : Array CpInfo := pool [(5, u "<init>"), (0, u "()V"), (1, .class_ 10), (1, u "java/lang/Object")] 113

def k0m0 : Method := { name := "<init>", desc := "()V", sig := { parameters := [], returnType := none }, accessFlags := 1, code := none }
/-- java/lang/Object -/
def k0 : Class := { plain "java/lang/Object" none with
  accessFlags := 33
  interfaces := #[]
  cf := some (fileOf pool0 8 #[] #[{ accessFlags := 1, nameIndex := 5, descriptorIndex := 6, attributes := #[] }] 33 0 #[] #[])
  fields := #[]
  methods := #[k0m0]
  instanceTypes := #[]
  staticTypes := #[]
  resolved := Array.replicate 124 none
  statics := none }

def pool1 : Array CpInfo := pool [(2, .class_ 4), (1, u "java/lang/Object"), (0, u "<init>"), (0, u "()V"), (0, .integer 3266489909), (0, .methodref 9 10), (0, .class_ 11), (0, .nameAndType 12 13), (0, u "com/example/farshard/farshard/store/Murmur3Hash32PinLaw"), (0, u "inv"), (0, u "(I)I"), (0, .integer 2246822507), (0, .integer 461845907), (0, .integer 3432918353), (0, .integer 3864292196), (0, .integer 2147483647), (0, .methodref 20 21), (0, .class_ 22), (0, .nameAndType 23 24), (0, u "com/example/farshard/farshard/store/Murmur3"), (0, u "hash32"), (0, u "([B)I"), (0, .methodref 9 26), (0, .nameAndType 27 13), (0, u "invFmix"), (0, .methodref 9 29), (0, .nameAndType 30 13), (0, u "invMix"), (0, .methodref 9 32), (0, .nameAndType 33 13), (0, u "invStep"), (2, u "law"), (0, u "(III)Z")] 5

def k1m0 : Method := { name := "<init>", desc := "()V", sig := { parameters := [], returnType := none }, accessFlags := 2, code := none }
def k1c1 : Code := { maxStack := 4, maxLocals := 2, code := method_2_code, exceptionTable := #[], attributes := #[] }
def k1m1 : Method := { name := "inv", desc := "(I)I", sig := { parameters := [.int], returnType := some .int }, accessFlags := 10, code := some k1c1 }
def k1c2 : Code := { maxStack := 4, maxLocals := 1, code := method_3_code, exceptionTable := #[], attributes := #[] }
def k1m2 : Method := { name := "invFmix", desc := "(I)I", sig := { parameters := [.int], returnType := some .int }, accessFlags := 10, code := some k1c2 }
def k1c3 : Code := { maxStack := 3, maxLocals := 2, code := method_4_code, exceptionTable := #[], attributes := #[] }
def k1m3 : Method := { name := "invMix", desc := "(I)I", sig := { parameters := [.int], returnType := some .int }, accessFlags := 10, code := some k1c3 }
def k1c4 : Code := { maxStack := 3, maxLocals := 2, code := method_5_code, exceptionTable := #[], attributes := #[] }
def k1m4 : Method := { name := "invStep", desc := "(I)I", sig := { parameters := [.int], returnType := some .int }, accessFlags := 10, code := some k1c4 }
def k1c5 : Code := { maxStack := 6, maxLocals := 9, code := code, exceptionTable := #[], attributes := #[] }
def k1m5 : Method := { name := "law", desc := "(III)Z", sig := { parameters := [.int, .int, .int], returnType := some .boolean }, accessFlags := 9, code := some k1c5 }
/-- com/example/farshard/farshard/store/Murmur3Hash32PinLaw -/
def k1 : Class := { plain "com/example/farshard/farshard/store/Murmur3Hash32PinLaw" (some 0) with
  accessFlags := 49
  interfaces := #[]
  cf := some (fileOf pool1 9 #[] #[{ accessFlags := 2, nameIndex := 5, descriptorIndex := 6, attributes := #[] }, { accessFlags := 10, nameIndex := 12, descriptorIndex := 13, attributes := #[] }, { accessFlags := 10, nameIndex := 27, descriptorIndex := 13, attributes := #[] }, { accessFlags := 10, nameIndex := 30, descriptorIndex := 13, attributes := #[] }, { accessFlags := 10, nameIndex := 33, descriptorIndex := 13, attributes := #[] }, { accessFlags := 9, nameIndex := 36, descriptorIndex := 37, attributes := #[] }] 49 2 #[] #[])
  fields := #[]
  methods := #[k1m0, k1m1, k1m2, k1m3, k1m4, k1m5]
  instanceTypes := #[]
  staticTypes := #[]
  resolved := Array.replicate 43 none
  statics := none }

def pool2 : Array CpInfo := pool [(2, .class_ 4), (1, u "java/lang/Object"), (0, u "<init>"), (0, u "()V"), (0, .methodref 8 9), (0, .class_ 10), (0, .nameAndType 11 12), (0, u "com/example/farshard/farshard/store/Murmur3"), (0, u "mixBlock"), (0, u "(I)I"), (0, .methodref 14 15), (0, .class_ 16), (0, .nameAndType 17 18), (0, u "java/lang/Integer"), (0, u "rotateLeft"), (0, u "(II)I"), (0, .integer 3864292196), (0, .integer 2246822507), (0, .integer 3266489909), (0, .integer 3432918353), (0, .integer 461845907), (0, u "C1"), (0, u "I"), (1, u "C2"), (2, u "hash32"), (0, u "([B)I")] 3

def k2m0 : Method := { name := "<init>", desc := "()V", sig := { parameters := [], returnType := none }, accessFlags := 2, code := none }
def k2c1 : Code := { maxStack := 4, maxLocals := 5, code := prog_62_method_2_code, exceptionTable := #[], attributes := #[] }
def k2m1 : Method := { name := "hash32", desc := "([B)I", sig := { parameters := [(.array .byte)], returnType := some .int }, accessFlags := 8, code := some k2c1 }
def k2c2 : Code := { maxStack := 2, maxLocals := 1, code := prog_62_method_3_code, exceptionTable := #[], attributes := #[] }
def k2m2 : Method := { name := "mixBlock", desc := "(I)I", sig := { parameters := [.int], returnType := some .int }, accessFlags := 10, code := some k2c2 }
/-- com/example/farshard/farshard/store/Murmur3 -/
def k2 : Class := { plain "com/example/farshard/farshard/store/Murmur3" (some 0) with
  accessFlags := 48
  interfaces := #[]
  cf := some (fileOf pool2 8 #[] #[{ accessFlags := 2, nameIndex := 5, descriptorIndex := 6, attributes := #[] }, { accessFlags := 8, nameIndex := 30, descriptorIndex := 31, attributes := #[] }, { accessFlags := 10, nameIndex := 11, descriptorIndex := 12, attributes := #[] }] 48 2 #[] #[{ accessFlags := 26, nameIndex := 24, descriptorIndex := 25, attributes := #[] }, { accessFlags := 26, nameIndex := 27, descriptorIndex := 25, attributes := #[] }])
  fields := #[{ name := "C1", type := .int, accessFlags := 26, slot := 0, constantValue := 0 }, { name := "C2", type := .int, accessFlags := 26, slot := 1, constantValue := 0 }]
  methods := #[k2m0, k2m1, k2m2]
  instanceTypes := #[]
  staticTypes := #[.int, .int]
  resolved := Array.replicate 35 none
  statics := none }

def pool3 : Array CpInfo := pool [(1, .class_ 2), (0, u "java/io/Serializable"), (0, .class_ 4), (0, u "java/lang/Object")] 2

/-- java/io/Serializable -/
def k3 : Class := { plain "java/io/Serializable" (some 0) with
  accessFlags := 1537
  interfaces := #[]
  cf := some (fileOf pool3 1 #[] #[] 1537 3 #[] #[])
  fields := #[]
  methods := #[]
  instanceTypes := #[]
  staticTypes := #[]
  resolved := Array.replicate 7 none
  statics := none }

def pool4 : Array CpInfo := pool [(2, .class_ 4), (1, u "java/lang/Object"), (0, u "<init>"), (0, u "()V"), (1, .class_ 10), (1, u "java/lang/Number"), (2, .class_ 14), (0, u "java/io/Serializable"), (0, u "serialVersionUID"), (0, u "J")] 20

def k4m0 : Method := { name := "<init>", desc := "()V", sig := { parameters := [], returnType := none }, accessFlags := 1, code := none }
/-- java/lang/Number -/
def k4 : Class := { plain "java/lang/Number" (some 0) with
  accessFlags := 1057
  interfaces := #[3]
  cf := some (fileOf pool4 8 #[] #[{ accessFlags := 1, nameIndex := 5, descriptorIndex := 6, attributes := #[] }] 1057 2 #[13] #[{ accessFlags := 26, nameIndex := 15, descriptorIndex := 16, attributes := #[] }])
  fields := #[{ name := "serialVersionUID", type := .long, accessFlags := 26, slot := 0, constantValue := 0 }]
  methods := #[k4m0]
  instanceTypes := #[]
  staticTypes := #[.long]
  resolved := Array.replicate 37 none
  statics := none }

def pool5 : Array CpInfo := pool [(1, .class_ 2), (0, u "java/lang/Comparable"), (0, .class_ 4), (0, u "java/lang/Object")] 7

/-- java/lang/Comparable -/
def k5 : Class := { plain "java/lang/Comparable" (some 0) with
  accessFlags := 1537
  interfaces := #[]
  cf := some (fileOf pool5 1 #[] #[] 1537 3 #[] #[])
  fields := #[]
  methods := #[]
  instanceTypes := #[]
  staticTypes := #[]
  resolved := Array.replicate 12 none
  statics := none }

def pool6 : Array CpInfo := pool [(1, .class_ 2), (0, u "java/lang/constant/Constable"), (0, .class_ 4), (0, u "java/lang/Object")] 6

/-- java/lang/constant/Constable -/
def k6 : Class := { plain "java/lang/constant/Constable" (some 0) with
  accessFlags := 1537
  interfaces := #[]
  cf := some (fileOf pool6 1 #[] #[] 1537 3 #[] #[])
  fields := #[]
  methods := #[]
  instanceTypes := #[]
  staticTypes := #[]
  resolved := Array.replicate 11 none
  statics := none }

def pool7 : Array CpInfo := pool [(1, .class_ 2), (0, u "java/lang/constant/ConstantDesc"), (0, .class_ 4), (0, u "java/lang/Object")] 32

/-- java/lang/constant/ConstantDesc -/
def k7 : Class := { plain "java/lang/constant/ConstantDesc" (some 0) with
  accessFlags := 1537
  interfaces := #[]
  cf := some (fileOf pool7 1 #[] #[] 1537 3 #[] #[])
  fields := #[]
  methods := #[]
  instanceTypes := #[]
  staticTypes := #[]
  resolved := Array.replicate 37 none
  statics := none }

def pool8 : Array CpInfo := pool [(1, .class_ 2), (0, u "java/lang/Integer"), (16, u "digits"), (0, u "[C"), (39, u "(II)I"), (24, u "DigitOnes"), (0, u "[B"), (2, u "DigitTens"), (99, .class_ 190), (0, u "java/lang/Integer$IntegerCache"), (3, u "I"), (8, .class_ 204), (0, u "java/lang/Number"), (2, u "value"), (94, u "TYPE"), (0, u "Ljava/lang/Class;"), (0, .class_ 305), (0, u "java/lang/Comparable"), (0, .class_ 307), (0, u "java/lang/constant/Constable"), (0, .class_ 309), (0, u "java/lang/constant/ConstantDesc"), (0, u "MIN_VALUE"), (1, u "MAX_VALUE"), (3, u "SIZE"), (1, u "BYTES"), (1, u "serialVersionUID"), (0, u "J"), (86, u "rotateLeft")] 44

def k8c0 : Code := { maxStack := 3, maxLocals := 2, code := jdk_33_method_50_code, exceptionTable := #[], attributes := #[] }
def k8m0 : Method := { name := "rotateLeft", desc := "(II)I", sig := { parameters := [.int, .int], returnType := some .int }, accessFlags := 9, code := some k8c0 }
/-- java/lang/Integer -/
def k8 : Class := { plain "java/lang/Integer" (some 4) with
  accessFlags := 49
  interfaces := #[5, 6, 7]
  cf := some (fileOf pool8 1 #[.nestMembers #[189]] #[{ accessFlags := 9, nameIndex := 408, descriptorIndex := 60, attributes := #[] }] 49 203 #[304, 306, 308] #[{ accessFlags := 25, nameIndex := 310, descriptorIndex := 194, attributes := #[] }, { accessFlags := 25, nameIndex := 312, descriptorIndex := 194, attributes := #[] }, { accessFlags := 25, nameIndex := 302, descriptorIndex := 303, attributes := #[] }, { accessFlags := 24, nameIndex := 19, descriptorIndex := 20, attributes := #[] }, { accessFlags := 24, nameIndex := 89, descriptorIndex := 86, attributes := #[] }, { accessFlags := 24, nameIndex := 85, descriptorIndex := 86, attributes := #[] }, { accessFlags := 18, nameIndex := 207, descriptorIndex := 194, attributes := #[] }, { accessFlags := 25, nameIndex := 316, descriptorIndex := 194, attributes := #[] }, { accessFlags := 25, nameIndex := 318, descriptorIndex := 194, attributes := #[] }, { accessFlags := 26, nameIndex := 320, descriptorIndex := 321, attributes := #[] }])
  fields := #[{ name := "MIN_VALUE", type := .int, accessFlags := 25, slot := 0, constantValue := 0 }, { name := "MAX_VALUE", type := .int, accessFlags := 25, slot := 1, constantValue := 0 }, { name := "TYPE", type := (.object "java/lang/Class"), accessFlags := 25, slot := 2, constantValue := 0 }, { name := "digits", type := (.array .char), accessFlags := 24, slot := 3, constantValue := 0 }, { name := "DigitTens", type := (.array .byte), accessFlags := 24, slot := 4, constantValue := 0 }, { name := "DigitOnes", type := (.array .byte), accessFlags := 24, slot := 5, constantValue := 0 }, { name := "value", type := .int, accessFlags := 18, slot := 0, constantValue := 0 }, { name := "SIZE", type := .int, accessFlags := 25, slot := 6, constantValue := 0 }, { name := "BYTES", type := .int, accessFlags := 25, slot := 7, constantValue := 0 }, { name := "serialVersionUID", type := .long, accessFlags := 26, slot := 8, constantValue := 0 }]
  methods := #[k8m0]
  instanceTypes := #[.int]
  staticTypes := #[.int, .int, (.object "java/lang/Class"), (.array .char), (.array .byte), (.array .byte), .int, .int, .long]
  resolved := Array.replicate 453 none
  statics := none }

def pool9 : Array CpInfo := pool [(1, u "java/lang/Cloneable"), (0, .class_ 1), (0, u "java/lang/Object"), (0, .class_ 3)] 3

/-- java/lang/Cloneable -/
def k9 : Class := { plain "java/lang/Cloneable" (some 0) with
  accessFlags := 1537
  interfaces := #[]
  cf := some (fileOf pool9 2 #[] #[] 1537 4 #[] #[])
  fields := #[]
  methods := #[]
  instanceTypes := #[]
  staticTypes := #[]
  resolved := Array.replicate 8 none
  statics := none }

/-- the primitive byte -/
def k10 : Class := { plain "byte" none with kind := .primitive 'B', accessFlags := 0x411 }
/-- [B -/
def k11 : Class := { plain "[B" (some 0) with kind := .array 10 .byte, interfaces := #[9, 3], accessFlags := 1041 }

/-- the primitive int -/
def k12 : Class := { plain "int" none with kind := .primitive 'I', accessFlags := 0x411 }
/-- [I -/
def k13 : Class := { plain "[I" (some 0) with kind := .array 12 .int, interfaces := #[9, 3], accessFlags := 1041 }

def heap : Heap := #[]
def classes : Array Class := #[k0, k1, k2, k3, k4, k5, k6, k7, k8, k9, k10, k11, k12, k13]
def interned : List (Array UInt16 × Addr) := []
def slotsUsed : Nat := 0
def theMethod : MethodId := ⟨1, 5⟩
def args0 : Array Value := #[.int 5, .int 3, .int 9]
def aboutOver (below : List Frame) : State where
  vm := { classes := classes, interned := interned.toArray }
  heap := heap
  slotsUsed := slotsUsed
  threads := #[{ frames := .invoking theMethod args0 :: below }]
def below0 : List Frame := [.native { method := ⟨0, 0⟩, args := #[] }]
def about1 : State := aboutOver below0
def p0 : Program := .bare "" "" ""
def e0 : Env := launch0.env 0 0 0
theorem w_frames : about1.frames = Frame.invoking theMethod args0 :: below0 := rfl
set_option maxRecDepth 65536 in
theorem w_args : argsFit about1.vm theMethod args0 = true := by decide +kernel
set_option maxRecDepth 65536 in
theorem w_heap : heapFits about1 = true := by decide +kernel
set_option maxRecDepth 65536 in
theorem w_runnable : about1.curStatus? = some .runnable := by decide +kernel
set_option maxRecDepth 65536 in
theorem w_alone : about1.alone = true := by decide +kernel
set_option maxRecDepth 65536 in
theorem w_named : about1.methodNamed? x = some theMethod := by decide +kernel
set_option maxRecDepth 65536 in
theorem w_hears : about1.hears theMethod below0 = true := by decide +kernel
set_option maxRecDepth 65536 in
theorem w_ripe : about1.ripe theMethod args0 below0 = true := by decide +kernel
theorem w_running : about1.status = .running := rfl
set_option maxRecDepth 65536 in
theorem w_room : about1.hasRoom e0.platform room_1 = true :=
  launch0.hasRoom_least _ room_1 (by decide +kernel) (by decide +kernel) (by decide +kernel) (by decide +kernel) (by decide +kernel) (by decide +kernel)
theorem allAtoms_all (ts : List Jvm.Cond) (a : Array Jvm.Value) (st : Jvm.State) : (allAtoms ts).before a st = ts.all (fun c => c.before a st) := by
  induction ts with
  | nil => rfl
  | cons c t ih =>
    show (Jvm.Cond.and c (allAtoms t)).before a st = _
    rw [Jvm.Cond.before_and, ih, List.all_cons]
def words1 : List Jvm.Cond := Jvm.Cond.code x code maxLocals ret :: tables_1
/-- a 'code' word, met by the world's own term for the bytes: nothing is compared byte by byte -/
theorem code_word {y : MethodName} {bytes : ByteArray} {mx : Nat} {rt : Option FieldType} {a : Array Value} {s : State} {m : MethodId} {meth : Method} {c : Code} (h1 : s.methodNamed? y = some m) (h2 : s.vm.method? m = some meth) (h3 : meth.code = some c) (h4 : c.code = bytes)
    (h5 : (c.maxLocals == mx && c.exceptionTable.isEmpty && decide (c.maxStack ≤ mostOperands) && decide (meth.sig.returnType = rt) && !meth.locks && decide (parseMethodDescriptor y.desc = some meth.sig)) = true) : (Jvm.Cond.code y bytes mx rt).before a s = true := by
  simp only [Bool.and_eq_true, beq_iff_eq, Bool.not_eq_true', decide_eq_true_eq] at h5
  obtain ⟨⟨⟨⟨⟨g1, g2⟩, g3⟩, g4⟩, g5⟩, g6⟩ := h5
  simp [Cond.before, Cond.holds, Cond.value, h1, h2, h3, h4, g1, g2, g3, g4, g5, g6]
def isCode : Jvm.Cond → Bool
  | .code _ _ _ _ => true
  | _ => false
theorem all_split {L : List Jvm.Cond} {P : Jvm.Cond → Bool} (h1 : L.all (fun c => isCode c || P c) = true) (h2 : ∀ c ∈ L.filter isCode, P c = true) : L.all P = true := by
  refine List.all_eq_true.mpr fun c hc => ?_
  have h := List.all_eq_true.mp h1 c hc
  rcases Bool.eq_false_or_eq_true (isCode c) with hi | hi
  · exact h2 c (List.mem_filter.mpr ⟨hc, hi⟩)
  · simpa [hi] using h
set_option maxRecDepth 65536 in
theorem w_c0 : (Jvm.Cond.code x code maxLocals ret).before args0 about1 = true := code_word (m := ⟨1, 5⟩) (meth := k1m5) (c := k1c5) (by decide +kernel) rfl rfl rfl (by decide +kernel)
set_option maxRecDepth 65536 in
theorem w_c1 : (Jvm.Cond.code ({ cls := "com/example/farshard/farshard/store/Murmur3", name := "hash32", desc := "([B)I" } : Jvm.MethodName) prog_62_method_2_code (5 : Nat) (Option.some Jvm.ClassFile.FieldType.int)).before args0 about1 = true := code_word (m := ⟨2, 1⟩) (meth := k2m1) (c := k2c1) (by decide +kernel) rfl rfl rfl (by decide +kernel)
set_option maxRecDepth 65536 in
theorem w_c2 : (Jvm.Cond.code ({ cls := "com/example/farshard/farshard/store/Murmur3Hash32PinLaw", name := "invFmix", desc := "(I)I" } : Jvm.MethodName) method_3_code (1 : Nat) (Option.some Jvm.ClassFile.FieldType.int)).before args0 about1 = true := code_word (m := ⟨1, 2⟩) (meth := k1m2) (c := k1c2) (by decide +kernel) rfl rfl rfl (by decide +kernel)
set_option maxRecDepth 65536 in
theorem w_c3 : (Jvm.Cond.code ({ cls := "com/example/farshard/farshard/store/Murmur3Hash32PinLaw", name := "inv", desc := "(I)I" } : Jvm.MethodName) method_2_code (2 : Nat) (Option.some Jvm.ClassFile.FieldType.int)).before args0 about1 = true := code_word (m := ⟨1, 1⟩) (meth := k1m1) (c := k1c1) (by decide +kernel) rfl rfl rfl (by decide +kernel)
set_option maxRecDepth 65536 in
theorem w_c4 : (Jvm.Cond.code ({ cls := "com/example/farshard/farshard/store/Murmur3", name := "mixBlock", desc := "(I)I" } : Jvm.MethodName) prog_62_method_3_code (1 : Nat) (Option.some Jvm.ClassFile.FieldType.int)).before args0 about1 = true := code_word (m := ⟨2, 2⟩) (meth := k2m2) (c := k2c2) (by decide +kernel) rfl rfl rfl (by decide +kernel)
set_option maxRecDepth 65536 in
theorem w_c5 : (Jvm.Cond.code ({ cls := "java/lang/Integer", name := "rotateLeft", desc := "(II)I" } : Jvm.MethodName) jdk_33_method_50_code (2 : Nat) (Option.some Jvm.ClassFile.FieldType.int)).before args0 about1 = true := code_word (m := ⟨8, 0⟩) (meth := k8m0) (c := k8c0) (by decide +kernel) rfl rfl rfl (by decide +kernel)
set_option maxRecDepth 65536 in
theorem w_c6 : (Jvm.Cond.code ({ cls := "com/example/farshard/farshard/store/Murmur3Hash32PinLaw", name := "invMix", desc := "(I)I" } : Jvm.MethodName) method_4_code (2 : Nat) (Option.some Jvm.ClassFile.FieldType.int)).before args0 about1 = true := code_word (m := ⟨1, 3⟩) (meth := k1m3) (c := k1c3) (by decide +kernel) rfl rfl rfl (by decide +kernel)
set_option maxRecDepth 65536 in
theorem w_c7 : (Jvm.Cond.code ({ cls := "com/example/farshard/farshard/store/Murmur3Hash32PinLaw", name := "invStep", desc := "(I)I" } : Jvm.MethodName) method_5_code (2 : Nat) (Option.some Jvm.ClassFile.FieldType.int)).before args0 about1 = true := code_word (m := ⟨1, 4⟩) (meth := k1m4) (c := k1c4) (by decide +kernel) rfl rfl rfl (by decide +kernel)
def codes1 : List Jvm.Cond := [Jvm.Cond.code x code maxLocals ret, Jvm.Cond.code ({ cls := "com/example/farshard/farshard/store/Murmur3", name := "hash32", desc := "([B)I" } : Jvm.MethodName) prog_62_method_2_code (5 : Nat) (Option.some Jvm.ClassFile.FieldType.int), Jvm.Cond.code ({ cls := "com/example/farshard/farshard/store/Murmur3Hash32PinLaw", name := "invFmix", desc := "(I)I" } : Jvm.MethodName) method_3_code (1 : Nat) (Option.some Jvm.ClassFile.FieldType.int), Jvm.Cond.code ({ cls := "com/example/farshard/farshard/store/Murmur3Hash32PinLaw", name := "inv", desc := "(I)I" } : Jvm.MethodName) method_2_code (2 : Nat) (Option.some Jvm.ClassFile.FieldType.int), Jvm.Cond.code ({ cls := "com/example/farshard/farshard/store/Murmur3", name := "mixBlock", desc := "(I)I" } : Jvm.MethodName) prog_62_method_3_code (1 : Nat) (Option.some Jvm.ClassFile.FieldType.int), Jvm.Cond.code ({ cls := "java/lang/Integer", name := "rotateLeft", desc := "(II)I" } : Jvm.MethodName) jdk_33_method_50_code (2 : Nat) (Option.some Jvm.ClassFile.FieldType.int), Jvm.Cond.code ({ cls := "com/example/farshard/farshard/store/Murmur3Hash32PinLaw", name := "invMix", desc := "(I)I" } : Jvm.MethodName) method_4_code (2 : Nat) (Option.some Jvm.ClassFile.FieldType.int), Jvm.Cond.code ({ cls := "com/example/farshard/farshard/store/Murmur3Hash32PinLaw", name := "invStep", desc := "(I)I" } : Jvm.MethodName) method_5_code (2 : Nat) (Option.some Jvm.ClassFile.FieldType.int)]
set_option maxRecDepth 65536 in
theorem codes_eq : words1.filter isCode = codes1 := rfl
theorem w_codes : ∀ c ∈ words1.filter isCode, c.before args0 about1 = true := by
  rw [codes_eq]
  intro c hc
  simp only [codes1, List.mem_cons, List.not_mem_nil, or_false] at hc
  rcases hc with rfl | rfl | rfl | rfl | rfl | rfl | rfl | rfl
  · exact w_c0
  · exact w_c1
  · exact w_c2
  · exact w_c3
  · exact w_c4
  · exact w_c5
  · exact w_c6
  · exact w_c7
set_option maxRecDepth 65536 in
theorem w_t1 : (words1.take 24).all (fun c => isCode c || c.before args0 about1) = true := by decide +kernel
set_option maxRecDepth 65536 in
theorem w_t2 : (words1.drop 24).all (fun c => isCode c || c.before args0 about1) = true := by decide +kernel
theorem w_tables : (allAtoms (Jvm.Cond.code x code maxLocals ret :: tables_1)).before args0 about1 = true := by
  rw [allAtoms_all]
  show words1.all (fun c => c.before args0 about1) = true
  refine all_split ?_ w_codes
  rw [← List.take_append_drop 24 words1, List.all_append, w_t1, w_t2]
  rfl
set_option maxRecDepth 65536 in
theorem w_case : (Jvm.Cond.and given_1 narrow_1).before args0 about1 = true := by decide +kernel
theorem w_applies : (headSpec (Jvm.Cond.code x code maxLocals ret :: tables_1) room_1).applies x e0.platform about1 = true :=
  (Spec.applies_iff w_frames).mpr ⟨w_running, w_runnable, w_alone, w_named, w_hears, w_ripe, w_room, w_tables⟩
theorem atStart : AtStart classFile x code maxLocals ret World_1 tables_1 room_1 Calls_1 rest_1 Pre_1 launch0 p0 e0 about1 theMethod args0 below0 :=
  ⟨lists_1, trivial, launch0.admits_env _ _ _, launch0.least_env, fairChoices_fair.cas, fairChoices_fair.clock, w_frames, w_args, w_heap, w_applies, trivial, trivial, w_case⟩
end start1
theorem witness_1 : WitnessClaimed_1 := ⟨start1.p0, start1.e0, start1.about1, start1.theMethod, start1.args0, start1.below0, start1.atStart⟩
end Jvm.Pilot.@@N@@
