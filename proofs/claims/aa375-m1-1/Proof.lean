import JvmDerived
import JvmDerived.Pilot.@@N@@Statement
import JvmDerived.Pilot.@@N@@Code
set_option linter.unusedVariables false
set_option linter.unusedSimpArgs false
namespace Jvm.Pilot.@@N@@
open Jvm Jvm.ClassFile Sem Op Lib Jvm.Free Jvm.Stand Jvm.LawKit Jvm.RoadKit Bundle Jvm.Pilot.@@N@@.Jvm.D
section OwnKit
variable {p : Program} {l : Launch} {e : Env} {R : Room} {s : State} {m : MethodId} {args : Array Value} {below : List Frame} {meth : Method} {c : Code} {T T' : State} {locs : List Loc} {cells slots : Nat} {P : Outcome → State → Prop} {Q : Option Value → Heap → List Loc → Prop} {cC cS : Nat} {bytes : ByteArray} {ls : Array Slot} {st : List Value} {pc pc' : Nat} {g g' : JFrame} {Z : State} {a0 : Array Value} {h h' : Heap}
/-- from this state and frame the method comes to its end, returns, and Q holds of what it leaves -/
def own_Got (p : Program) (e : Env) (below : List Frame) (P : Outcome → State → Prop) (T : State) (g : JFrame) : Prop :=
  ∃ s₂ o, Steps p.tables e below (T.setTop g) s₂ ∧ s₂.status = .running ∧ Ended s₂ below o ∧ P o s₂
/-- what a contract says of the end -/
def own_End (s : State) (Q : Option Value → Heap → List Loc → Prop) (cC cS : Nat) (o : Outcome) (U : State) : Prop := ∃ v L, o = .returned v ∧ Q v U.heap L ∧ FrameEnd s o U L cC cS
theorem own_go (k : ∀ t, Steps p.tables e below (T'.setTop g') t → Steps p.tables e below (T.setTop g) t) (h : own_Got p e below P T' g') : own_Got p e below P T g := by
  obtain ⟨s2, o, h1, h2⟩ := h; exact ⟨s2, o, k _ h1, h2⟩
theorem own_tr (k : Steps p.tables e below (T.setTop g) (T'.setTop g')) (h : own_Got p e below P T' g') : own_Got p e below P T g := own_go (fun _ q => k.trans q) h
theorem own_cast (q : g = g') (h : own_Got p e below P T g') : own_Got p e below P T g := q ▸ h
theorem own_retV (X : Stand p l e R s m args below meth c T locs cells slots) (hx : p.tables.exec = Jvm.exec) (hby : c.code = bytes) (hlk : meth.locks = false) (hret : meth.sig.returnType = none) (hd : decode bytes pc = .ok (.return_, 1)) (hc : cells ≤ cC) (hs : slots ≤ cS)
    (hq : Q none T.heap locs) : own_Got p e below (own_End s Q cC cS) T (mkF m pc ls []) := by
  obtain ⟨fs, hr, hrun, hended, hW, hsame⟩ := X.leave (v := none) (fun _ => rfl) hlk
  exact ⟨_, _, X.returnOut hx hret (hb hby hd) hr, hrun, hended, _, _, rfl, hq, ⟨_, rfl⟩, hW, hsame.mono hc hs⟩
theorem own_retI (X : Stand p l e R s m args below meth c T locs cells slots) (hx : p.tables.exec = Jvm.exec) (hby : c.code = bytes) (hlk : meth.locks = false) (hret : meth.sig.returnType = some .int) (hd : decode bytes pc = .ok (.ireturn, 1)) (hc : cells ≤ cC) (hs : slots ≤ cS) {z : Int32}
    (hq : Q (some (.int z)) T.heap locs) : own_Got p e below (own_End s Q cC cS) T (mkF m pc ls (.int z :: st)) := by
  obtain ⟨fs, hr, hrun, hended, hW, hsame⟩ := X.leave (v := some (.int z)) (fun h => by rw [hret] at h; cases h) hlk
  exact ⟨_, _, retOut X hx hret rfl (Or.inl ⟨rfl, Or.inl rfl, _, rfl⟩) (hb hby hd) hr, hrun, hended, _, _, rfl, hq, ⟨_, rfl⟩, hW, hsame.mono hc hs⟩
theorem own_retL (X : Stand p l e R s m args below meth c T locs cells slots) (hx : p.tables.exec = Jvm.exec) (hby : c.code = bytes) (hlk : meth.locks = false) (hret : meth.sig.returnType = some .long) (hd : decode bytes pc = .ok (.lreturn, 1)) (hc : cells ≤ cC) (hs : slots ≤ cS) {z : Int64}
    (hq : Q (some (.long z)) T.heap locs) : own_Got p e below (own_End s Q cC cS) T (mkF m pc ls (.long z :: st)) := by
  obtain ⟨fs, hr, hrun, hended, hW, hsame⟩ := X.leave (v := some (.long z)) (fun h => by rw [hret] at h; cases h) hlk
  exact ⟨_, _, retOut X hx hret rfl (Or.inr (Or.inl ⟨rfl, rfl, _, rfl⟩)) (hb hby hd) hr, hrun, hended, _, _, rfl, hq, ⟨_, rfl⟩, hW, hsame.mono hc hs⟩
theorem own_retD (X : Stand p l e R s m args below meth c T locs cells slots) (hx : p.tables.exec = Jvm.exec) (hby : c.code = bytes) (hlk : meth.locks = false) (hret : meth.sig.returnType = some .double) (hd : decode bytes pc = .ok (.dreturn, 1)) (hc : cells ≤ cC) (hs : slots ≤ cS) {z : UInt64}
    (hq : Q (some (.double z)) T.heap locs) : own_Got p e below (own_End s Q cC cS) T (mkF m pc ls (.double z :: st)) := by
  obtain ⟨fs, hr, hrun, hended, hW, hsame⟩ := X.leave (v := some (.double z)) (fun h => by rw [hret] at h; cases h) hlk
  exact ⟨_, _, retOut X hx hret rfl (Or.inr (Or.inr (Or.inl ⟨rfl, rfl, _, rfl⟩))) (hb hby hd) hr, hrun, hended, _, _, rfl, hq, ⟨_, rfl⟩, hW, hsame.mono hc hs⟩
theorem own_retN (X : Stand p l e R s m args below meth c T locs cells slots) (hx : p.tables.exec = Jvm.exec) (hby : c.code = bytes) (hlk : meth.locks = false) {t : FieldType} (hret : meth.sig.returnType = some t) (ht : t = .boolean ∨ t = .byte ∨ t = .char ∨ t = .short) (hd : decode bytes pc = .ok (.ireturn, 1)) (hc : cells ≤ cC) (hs : slots ≤ cS) {z : Int32}
    (hq : Q (some (.int (nar t z))) T.heap locs) : own_Got p e below (own_End s Q cC cS) T (mkF m pc ls (.int z :: st)) := by
  obtain ⟨fs, hr, hrun, hended, hW, hsame⟩ := X.leave (v := some (.int (nar t z))) (fun h => by rw [hret] at h; cases h) hlk
  exact ⟨_, _, retN X hx hret ht (hb hby hd) hr, hrun, hended, _, _, rfl, hq, ⟨_, rfl⟩, hW, hsame.mono hc hs⟩
theorem own_retR (X : Stand p l e R s m args below meth c T locs cells slots) (hx : p.tables.exec = Jvm.exec) (hby : c.code = bytes) (hlk : meth.locks = false) {t : FieldType} (hret : meth.sig.returnType = some t) (ht : t.isReference = true) (hd : decode bytes pc = .ok (.areturn, 1)) (hc : cells ≤ cC) (hs : slots ≤ cS) {w : Value} (hw : w.isRef = true)
    (hq : Q (some w) T.heap locs) : own_Got p e below (own_End s Q cC cS) T (mkF m pc ls (w :: st)) := by
  obtain ⟨fs, hr, hrun, hended, hW, hsame⟩ := X.leave (v := some w) (fun h => by rw [hret] at h; cases h) hlk
  have hn : narrow t w = w := by rcases ref_cases hw with rfl | ⟨a, rfl⟩ <;> cases t <;> first | rfl | (cases ht)
  exact ⟨_, _, retOut X hx hret hn (Or.inr (Or.inr (Or.inr (Or.inr ⟨rfl, ht, hw⟩)))) (hb hby hd) hr, hrun, hended, _, _, rfl, hq, ⟨_, rfl⟩, hW, hsame.mono hc hs⟩
theorem g_iloadN (X : Stand p l e R s m args below meth c T locs cells slots) (hx : p.tables.exec = Jvm.exec) (hby : c.code = bytes) {k : Fin 4} {v : Int32} (hd : decode bytes pc = .ok (.iload_n k, 1)) (hl : ls[k.val]? = some (.val (.int v))) (hp : pc + 1 = pc')
    (k : own_Got p e below P T (mkF m pc' ls (.int v :: st))) : own_Got p e below P T (mkF m pc ls (st)) := by
  subst hp; exact own_go (fun _ q => XS.iloadN X.here hx rfl (hb hby hd) hl q) k
theorem g_iload (X : Stand p l e R s m args below meth c T locs cells slots) (hx : p.tables.exec = Jvm.exec) (hby : c.code = bytes) {k : Nat} {v : Int32} (hd : decode bytes pc = .ok (.iload k, 2)) (hl : ls[k]? = some (.val (.int v))) (hp : pc + 2 = pc')
    (k : own_Got p e below P T (mkF m pc' ls (.int v :: st))) : own_Got p e below P T (mkF m pc ls (st)) := by
  subst hp; exact own_go (fun _ q => XS.iload X.here hx rfl (hb hby hd) hl q) k
theorem g_lloadN (X : Stand p l e R s m args below meth c T locs cells slots) (hx : p.tables.exec = Jvm.exec) (hby : c.code = bytes) {k : Fin 4} {v : Int64} (hd : decode bytes pc = .ok (.lload_n k, 1)) (hl : ls[k.val]? = some (.val (.long v))) (hp : pc + 1 = pc')
    (k : own_Got p e below P T (mkF m pc' ls (.long v :: st))) : own_Got p e below P T (mkF m pc ls (st)) := by
  subst hp; exact own_go (fun _ q => XS.lloadN X.here hx rfl (hb hby hd) hl q) k
theorem g_lload (X : Stand p l e R s m args below meth c T locs cells slots) (hx : p.tables.exec = Jvm.exec) (hby : c.code = bytes) {k : Nat} {v : Int64} (hd : decode bytes pc = .ok (.lload k, 2)) (hl : ls[k]? = some (.val (.long v))) (hp : pc + 2 = pc')
    (k : own_Got p e below P T (mkF m pc' ls (.long v :: st))) : own_Got p e below P T (mkF m pc ls (st)) := by
  subst hp; exact own_go (fun _ q => XS.lload X.here hx rfl (hb hby hd) hl q) k
theorem g_dloadN (X : Stand p l e R s m args below meth c T locs cells slots) (hx : p.tables.exec = Jvm.exec) (hby : c.code = bytes) {k : Fin 4} {v : UInt64} (hd : decode bytes pc = .ok (.dload_n k, 1)) (hl : ls[k.val]? = some (.val (.double v))) (hp : pc + 1 = pc')
    (k : own_Got p e below P T (mkF m pc' ls (.double v :: st))) : own_Got p e below P T (mkF m pc ls (st)) := by
  subst hp; exact own_go (fun _ q => XS.dloadN X.here hx rfl (hb hby hd) hl q) k
theorem g_dload (X : Stand p l e R s m args below meth c T locs cells slots) (hx : p.tables.exec = Jvm.exec) (hby : c.code = bytes) {k : Nat} {v : UInt64} (hd : decode bytes pc = .ok (.dload k, 2)) (hl : ls[k]? = some (.val (.double v))) (hp : pc + 2 = pc')
    (k : own_Got p e below P T (mkF m pc' ls (.double v :: st))) : own_Got p e below P T (mkF m pc ls (st)) := by
  subst hp; exact own_go (fun _ q => XS.dload X.here hx rfl (hb hby hd) hl q) k
theorem g_aloadN (X : Stand p l e R s m args below meth c T locs cells slots) (hx : p.tables.exec = Jvm.exec) (hby : c.code = bytes) {k : Fin 4} {v : Value} (hd : decode bytes pc = .ok (.aload_n k, 1)) (hl : ls[k.val]? = some (.val v)) (hv : v.isRef = true) (hp : pc + 1 = pc')
    (k : own_Got p e below P T (mkF m pc' ls (v :: st))) : own_Got p e below P T (mkF m pc ls (st)) := by
  subst hp; exact own_go (fun _ q => XS.aloadN X.here hx rfl (hb hby hd) hl hv q) k
theorem g_aload (X : Stand p l e R s m args below meth c T locs cells slots) (hx : p.tables.exec = Jvm.exec) (hby : c.code = bytes) {k : Nat} {v : Value} (hd : decode bytes pc = .ok (.aload k, 2)) (hl : ls[k]? = some (.val v)) (hv : v.isRef = true) (hp : pc + 2 = pc')
    (k : own_Got p e below P T (mkF m pc' ls (v :: st))) : own_Got p e below P T (mkF m pc ls (st)) := by
  subst hp; exact own_go (fun _ q => XS.aload X.here hx rfl (hb hby hd) hl hv q) k
theorem g_istoreN (X : Stand p l e R s m args below meth c T locs cells slots) (hx : p.tables.exec = Jvm.exec) (hby : c.code = bytes) {k : Fin 4} {x : Int32} (ls' : Array Slot) (hd : decode bytes pc = .ok (.istore_n k, 1)) (hl : storeLocals ls k.val (.int x) = some ls') (hp : pc + 1 = pc')
    (k : own_Got p e below P T (mkF m pc' ls' (st))) : own_Got p e below P T (mkF m pc ls (.int x :: st)) := by
  subst hp; exact own_go (fun _ q => XS.istoreN X.here hx rfl (hb hby hd) rfl hl q) k
theorem g_istore (X : Stand p l e R s m args below meth c T locs cells slots) (hx : p.tables.exec = Jvm.exec) (hby : c.code = bytes) {k : Nat} {x : Int32} (ls' : Array Slot) (hd : decode bytes pc = .ok (.istore k, 2)) (hl : storeLocals ls k (.int x) = some ls') (hp : pc + 2 = pc')
    (k : own_Got p e below P T (mkF m pc' ls' (st))) : own_Got p e below P T (mkF m pc ls (.int x :: st)) := by
  subst hp; exact own_go (fun _ q => XS.istore X.here hx rfl (hb hby hd) rfl hl q) k
theorem g_lstoreN (X : Stand p l e R s m args below meth c T locs cells slots) (hx : p.tables.exec = Jvm.exec) (hby : c.code = bytes) {k : Fin 4} {x : Int64} (ls' : Array Slot) (hd : decode bytes pc = .ok (.lstore_n k, 1)) (hl : storeLocals ls k.val (.long x) = some ls') (hp : pc + 1 = pc')
    (k : own_Got p e below P T (mkF m pc' ls' (st))) : own_Got p e below P T (mkF m pc ls (.long x :: st)) := by
  subst hp; exact own_go (fun _ q => XS.lstoreN X.here hx rfl (hb hby hd) rfl hl q) k
theorem g_lstore (X : Stand p l e R s m args below meth c T locs cells slots) (hx : p.tables.exec = Jvm.exec) (hby : c.code = bytes) {k : Nat} {x : Int64} (ls' : Array Slot) (hd : decode bytes pc = .ok (.lstore k, 2)) (hl : storeLocals ls k (.long x) = some ls') (hp : pc + 2 = pc')
    (k : own_Got p e below P T (mkF m pc' ls' (st))) : own_Got p e below P T (mkF m pc ls (.long x :: st)) := by
  subst hp; exact own_go (fun _ q => XS.lstore X.here hx rfl (hb hby hd) rfl hl q) k
theorem g_dstoreN (X : Stand p l e R s m args below meth c T locs cells slots) (hx : p.tables.exec = Jvm.exec) (hby : c.code = bytes) {k : Fin 4} {x : UInt64} (ls' : Array Slot) (hd : decode bytes pc = .ok (.dstore_n k, 1)) (hl : storeLocals ls k.val (.double x) = some ls') (hp : pc + 1 = pc')
    (k : own_Got p e below P T (mkF m pc' ls' (st))) : own_Got p e below P T (mkF m pc ls (.double x :: st)) := by
  subst hp; exact own_go (fun _ q => XS.dstoreN X.here hx rfl (hb hby hd) rfl hl q) k
theorem g_dstore (X : Stand p l e R s m args below meth c T locs cells slots) (hx : p.tables.exec = Jvm.exec) (hby : c.code = bytes) {k : Nat} {x : UInt64} (ls' : Array Slot) (hd : decode bytes pc = .ok (.dstore k, 2)) (hl : storeLocals ls k (.double x) = some ls') (hp : pc + 2 = pc')
    (k : own_Got p e below P T (mkF m pc' ls' (st))) : own_Got p e below P T (mkF m pc ls (.double x :: st)) := by
  subst hp; exact own_go (fun _ q => XS.dstore X.here hx rfl (hb hby hd) rfl hl q) k
theorem g_astoreN (X : Stand p l e R s m args below meth c T locs cells slots) (hx : p.tables.exec = Jvm.exec) (hby : c.code = bytes) {k : Fin 4} {x : Value} (ls' : Array Slot) (hd : decode bytes pc = .ok (.astore_n k, 1)) (hv : x.isRef = true) (hl : storeLocals ls k.val x = some ls') (hp : pc + 1 = pc')
    (k : own_Got p e below P T (mkF m pc' ls' (st))) : own_Got p e below P T (mkF m pc ls (x :: st)) := by
  subst hp; exact own_go (fun _ q => XS.astoreN X.here hx rfl (hb hby hd) rfl hv hl q) k
theorem g_astore (X : Stand p l e R s m args below meth c T locs cells slots) (hx : p.tables.exec = Jvm.exec) (hby : c.code = bytes) {k : Nat} {x : Value} (ls' : Array Slot) (hd : decode bytes pc = .ok (.astore k, 2)) (hv : x.isRef = true) (hl : storeLocals ls k x = some ls') (hp : pc + 2 = pc')
    (k : own_Got p e below P T (mkF m pc' ls' (st))) : own_Got p e below P T (mkF m pc ls (x :: st)) := by
  subst hp; exact own_go (fun _ q => XS.astore X.here hx rfl (hb hby hd) rfl hv hl q) k
theorem g_iconst (X : Stand p l e R s m args below meth c T locs cells slots) (hx : p.tables.exec = Jvm.exec) (hby : c.code = bytes) {i : Int} (z : Int32) (hd : decode bytes pc = .ok (.iconst i, 1)) (hz : Int32.ofInt i = z) (hp : pc + 1 = pc')
    (k : own_Got p e below P T (mkF m pc' ls (.int z :: st))) : own_Got p e below P T (mkF m pc ls (st)) := by
  subst hp; subst hz; exact own_go (fun _ q => XS.iconst X.here hx rfl (hb hby hd) q) k
theorem g_bipush (X : Stand p l e R s m args below meth c T locs cells slots) (hx : p.tables.exec = Jvm.exec) (hby : c.code = bytes) {i : Int} (z : Int32) (hd : decode bytes pc = .ok (.bipush i, 2)) (hz : (Int8.ofInt i).toInt32 = z) (hp : pc + 2 = pc')
    (k : own_Got p e below P T (mkF m pc' ls (.int z :: st))) : own_Got p e below P T (mkF m pc ls (st)) := by
  subst hp; subst hz; exact own_go (fun _ q => XS.bipush X.here hx rfl (hb hby hd) q) k
theorem g_sipush (X : Stand p l e R s m args below meth c T locs cells slots) (hx : p.tables.exec = Jvm.exec) (hby : c.code = bytes) {i : Int} (z : Int32) (hd : decode bytes pc = .ok (.sipush i, 3)) (hz : (Int16.ofInt i).toInt32 = z) (hp : pc + 3 = pc')
    (k : own_Got p e below P T (mkF m pc' ls (.int z :: st))) : own_Got p e below P T (mkF m pc ls (st)) := by
  subst hp; subst hz; exact own_go (fun _ q => XS.sipush X.here hx rfl (hb hby hd) q) k
theorem g_lconst (X : Stand p l e R s m args below meth c T locs cells slots) (hx : p.tables.exec = Jvm.exec) (hby : c.code = bytes) {i : Fin 2} (z : Int64) (hd : decode bytes pc = .ok (.lconst i, 1)) (hz : Int64.ofNat i.val = z) (hp : pc + 1 = pc')
    (k : own_Got p e below P T (mkF m pc' ls (.long z :: st))) : own_Got p e below P T (mkF m pc ls (st)) := by
  subst hp; subst hz; exact own_go (fun _ q => XS.lconst X.here hx rfl (hb hby hd) q) k
theorem g_anull (X : Stand p l e R s m args below meth c T locs cells slots) (hx : p.tables.exec = Jvm.exec) (hby : c.code = bytes)  (hd : decode bytes pc = .ok (.aconst_null, 1))  (hp : pc + 1 = pc')
    (k : own_Got p e below P T (mkF m pc' ls (.null :: st))) : own_Got p e below P T (mkF m pc ls (st)) := by
  subst hp; exact own_go (fun _ q => XS.aconstNull X.here hx rfl (hb hby hd) q) k
theorem g_iadd (X : Stand p l e R s m args below meth c T locs cells slots) (hx : p.tables.exec = Jvm.exec) (hby : c.code = bytes) {x y : Int32} (hd : decode bytes pc = .ok (.iadd, 1))  (hp : pc + 1 = pc')
    (k : own_Got p e below P T (mkF m pc' ls (.int (x + y) :: st))) : own_Got p e below P T (mkF m pc ls (.int y :: .int x :: st)) := by
  subst hp; exact own_go (fun _ q => XS.iadd X.here hx rfl (hb hby hd) rfl q) k
theorem g_isub (X : Stand p l e R s m args below meth c T locs cells slots) (hx : p.tables.exec = Jvm.exec) (hby : c.code = bytes) {x y : Int32} (hd : decode bytes pc = .ok (.isub, 1))  (hp : pc + 1 = pc')
    (k : own_Got p e below P T (mkF m pc' ls (.int (x - y) :: st))) : own_Got p e below P T (mkF m pc ls (.int y :: .int x :: st)) := by
  subst hp; exact own_go (fun _ q => XS.isub X.here hx rfl (hb hby hd) rfl q) k
theorem g_iand (X : Stand p l e R s m args below meth c T locs cells slots) (hx : p.tables.exec = Jvm.exec) (hby : c.code = bytes) {x y : Int32} (hd : decode bytes pc = .ok (.iand, 1))  (hp : pc + 1 = pc')
    (k : own_Got p e below P T (mkF m pc' ls (.int (x &&& y) :: st))) : own_Got p e below P T (mkF m pc ls (.int y :: .int x :: st)) := by
  subst hp; exact own_go (fun _ q => XS.iand X.here hx rfl (hb hby hd) rfl q) k
theorem g_ior (X : Stand p l e R s m args below meth c T locs cells slots) (hx : p.tables.exec = Jvm.exec) (hby : c.code = bytes) {x y : Int32} (hd : decode bytes pc = .ok (.ior, 1))  (hp : pc + 1 = pc')
    (k : own_Got p e below P T (mkF m pc' ls (.int (x ||| y) :: st))) : own_Got p e below P T (mkF m pc ls (.int y :: .int x :: st)) := by
  subst hp; exact own_go (fun _ q => XS.ior X.here hx rfl (hb hby hd) rfl q) k
theorem g_ixor (X : Stand p l e R s m args below meth c T locs cells slots) (hx : p.tables.exec = Jvm.exec) (hby : c.code = bytes) {x y : Int32} (hd : decode bytes pc = .ok (.ixor, 1))  (hp : pc + 1 = pc')
    (k : own_Got p e below P T (mkF m pc' ls (.int (x ^^^ y) :: st))) : own_Got p e below P T (mkF m pc ls (.int y :: .int x :: st)) := by
  subst hp; exact own_go (fun _ q => XS.ixor X.here hx rfl (hb hby hd) rfl q) k
theorem g_imul (X : Stand p l e R s m args below meth c T locs cells slots) (hx : p.tables.exec = Jvm.exec) (hby : c.code = bytes) {x y : Int32} (hd : decode bytes pc = .ok (.imul, 1))  (hp : pc + 1 = pc')
    (k : own_Got p e below P T (mkF m pc' ls (.int (x * y) :: st))) : own_Got p e below P T (mkF m pc ls (.int y :: .int x :: st)) := by
  subst hp; exact own_go (fun _ q => XS.imul X.here hx rfl (hb hby hd) rfl q) k
theorem g_ladd (X : Stand p l e R s m args below meth c T locs cells slots) (hx : p.tables.exec = Jvm.exec) (hby : c.code = bytes) {x y : Int64} (hd : decode bytes pc = .ok (.ladd, 1))  (hp : pc + 1 = pc')
    (k : own_Got p e below P T (mkF m pc' ls (.long (x + y) :: st))) : own_Got p e below P T (mkF m pc ls (.long y :: .long x :: st)) := by
  subst hp; exact own_go (fun _ q => XS.ladd X.here hx rfl (hb hby hd) rfl q) k
theorem g_lsub (X : Stand p l e R s m args below meth c T locs cells slots) (hx : p.tables.exec = Jvm.exec) (hby : c.code = bytes) {x y : Int64} (hd : decode bytes pc = .ok (.lsub, 1))  (hp : pc + 1 = pc')
    (k : own_Got p e below P T (mkF m pc' ls (.long (x - y) :: st))) : own_Got p e below P T (mkF m pc ls (.long y :: .long x :: st)) := by
  subst hp; exact own_go (fun _ q => XS.lsub X.here hx rfl (hb hby hd) rfl q) k
theorem g_land (X : Stand p l e R s m args below meth c T locs cells slots) (hx : p.tables.exec = Jvm.exec) (hby : c.code = bytes) {x y : Int64} (hd : decode bytes pc = .ok (.land, 1))  (hp : pc + 1 = pc')
    (k : own_Got p e below P T (mkF m pc' ls (.long (x &&& y) :: st))) : own_Got p e below P T (mkF m pc ls (.long y :: .long x :: st)) := by
  subst hp; exact own_go (fun _ q => XS.land X.here hx rfl (hb hby hd) rfl q) k
theorem g_lor (X : Stand p l e R s m args below meth c T locs cells slots) (hx : p.tables.exec = Jvm.exec) (hby : c.code = bytes) {x y : Int64} (hd : decode bytes pc = .ok (.lor, 1))  (hp : pc + 1 = pc')
    (k : own_Got p e below P T (mkF m pc' ls (.long (x ||| y) :: st))) : own_Got p e below P T (mkF m pc ls (.long y :: .long x :: st)) := by
  subst hp; exact own_go (fun _ q => XS.lor X.here hx rfl (hb hby hd) rfl q) k
theorem g_lxor (X : Stand p l e R s m args below meth c T locs cells slots) (hx : p.tables.exec = Jvm.exec) (hby : c.code = bytes) {x y : Int64} (hd : decode bytes pc = .ok (.lxor, 1))  (hp : pc + 1 = pc')
    (k : own_Got p e below P T (mkF m pc' ls (.long (x ^^^ y) :: st))) : own_Got p e below P T (mkF m pc ls (.long y :: .long x :: st)) := by
  subst hp; exact own_go (fun _ q => XS.lxor X.here hx rfl (hb hby hd) rfl q) k
theorem g_lmul (X : Stand p l e R s m args below meth c T locs cells slots) (hx : p.tables.exec = Jvm.exec) (hby : c.code = bytes) {x y : Int64} (hd : decode bytes pc = .ok (.lmul, 1))  (hp : pc + 1 = pc')
    (k : own_Got p e below P T (mkF m pc' ls (.long (x * y) :: st))) : own_Got p e below P T (mkF m pc ls (.long y :: .long x :: st)) := by
  subst hp; exact own_go (fun _ q => XS.lmul X.here hx rfl (hb hby hd) rfl q) k
theorem g_idiv (X : Stand p l e R s m args below meth c T locs cells slots) (hx : p.tables.exec = Jvm.exec) (hby : c.code = bytes) {x y : Int32} (hd : decode bytes pc = .ok (.idiv, 1)) (hy : y ≠ 0) (hp : pc + 1 = pc')
    (k : own_Got p e below P T (mkF m pc' ls (.int (x / y) :: st))) : own_Got p e below P T (mkF m pc ls (.int y :: .int x :: st)) := by
  subst hp; exact own_go (fun _ q => XS.idiv X.here hx rfl (hb hby hd) rfl hy q) k
theorem g_irem (X : Stand p l e R s m args below meth c T locs cells slots) (hx : p.tables.exec = Jvm.exec) (hby : c.code = bytes) {x y : Int32} (hd : decode bytes pc = .ok (.irem, 1)) (hy : y ≠ 0) (hp : pc + 1 = pc')
    (k : own_Got p e below P T (mkF m pc' ls (.int (x % y) :: st))) : own_Got p e below P T (mkF m pc ls (.int y :: .int x :: st)) := by
  subst hp; exact own_go (fun _ q => iremM X hx rfl (hb hby hd) rfl hy q) k
theorem g_ishl (X : Stand p l e R s m args below meth c T locs cells slots) (hx : p.tables.exec = Jvm.exec) (hby : c.code = bytes) {x y : Int32} (hd : decode bytes pc = .ok (.ishl, 1))  (hp : pc + 1 = pc')
    (k : own_Got p e below P T (mkF m pc' ls (.int (x <<< (y &&& 31)) :: st))) : own_Got p e below P T (mkF m pc ls (.int y :: .int x :: st)) := by
  subst hp; exact own_go (fun _ q => XS.ishl X.here hx rfl (hb hby hd) rfl q) k
theorem g_ishr (X : Stand p l e R s m args below meth c T locs cells slots) (hx : p.tables.exec = Jvm.exec) (hby : c.code = bytes) {x y : Int32} (hd : decode bytes pc = .ok (.ishr, 1))  (hp : pc + 1 = pc')
    (k : own_Got p e below P T (mkF m pc' ls (.int (x >>> (y &&& 31)) :: st))) : own_Got p e below P T (mkF m pc ls (.int y :: .int x :: st)) := by
  subst hp; exact own_go (fun _ q => XS.ishr X.here hx rfl (hb hby hd) rfl q) k
theorem g_iushr (X : Stand p l e R s m args below meth c T locs cells slots) (hx : p.tables.exec = Jvm.exec) (hby : c.code = bytes) {x y : Int32} (hd : decode bytes pc = .ok (.iushr, 1))  (hp : pc + 1 = pc')
    (k : own_Got p e below P T (mkF m pc' ls (.int ((x.toUInt32 >>> (y &&& 31).toUInt32).toInt32) :: st))) : own_Got p e below P T (mkF m pc ls (.int y :: .int x :: st)) := by
  subst hp; exact own_go (fun _ q => XS.iushr X.here hx rfl (hb hby hd) rfl q) k
theorem g_ineg (X : Stand p l e R s m args below meth c T locs cells slots) (hx : p.tables.exec = Jvm.exec) (hby : c.code = bytes) {x : Int32} (hd : decode bytes pc = .ok (.ineg, 1))  (hp : pc + 1 = pc')
    (k : own_Got p e below P T (mkF m pc' ls (.int (-x) :: st))) : own_Got p e below P T (mkF m pc ls (.int x :: st)) := by
  subst hp; exact own_go (fun _ q => XS.ineg X.here hx rfl (hb hby hd) rfl q) k
theorem g_i2b (X : Stand p l e R s m args below meth c T locs cells slots) (hx : p.tables.exec = Jvm.exec) (hby : c.code = bytes) {x : Int32} (hd : decode bytes pc = .ok (.i2b, 1))  (hp : pc + 1 = pc')
    (k : own_Got p e below P T (mkF m pc' ls (.int x.toInt8.toInt32 :: st))) : own_Got p e below P T (mkF m pc ls (.int x :: st)) := by
  subst hp; exact own_go (fun _ q => XS.i2b X.here hx rfl (hb hby hd) rfl q) k
theorem g_i2s (X : Stand p l e R s m args below meth c T locs cells slots) (hx : p.tables.exec = Jvm.exec) (hby : c.code = bytes) {x : Int32} (hd : decode bytes pc = .ok (.i2s, 1))  (hp : pc + 1 = pc')
    (k : own_Got p e below P T (mkF m pc' ls (.int x.toInt16.toInt32 :: st))) : own_Got p e below P T (mkF m pc ls (.int x :: st)) := by
  subst hp; exact own_go (fun _ q => XS.i2s X.here hx rfl (hb hby hd) rfl q) k
theorem g_i2c (X : Stand p l e R s m args below meth c T locs cells slots) (hx : p.tables.exec = Jvm.exec) (hby : c.code = bytes) {x : Int32} (hd : decode bytes pc = .ok (.i2c, 1))  (hp : pc + 1 = pc')
    (k : own_Got p e below P T (mkF m pc' ls (.int x.toUInt32.toUInt16.toUInt32.toInt32 :: st))) : own_Got p e below P T (mkF m pc ls (.int x :: st)) := by
  subst hp; exact own_go (fun _ q => XS.i2c X.here hx rfl (hb hby hd) rfl q) k
theorem g_i2l (X : Stand p l e R s m args below meth c T locs cells slots) (hx : p.tables.exec = Jvm.exec) (hby : c.code = bytes) {x : Int32} (hd : decode bytes pc = .ok (.i2l, 1))  (hp : pc + 1 = pc')
    (k : own_Got p e below P T (mkF m pc' ls (.long x.toInt64 :: st))) : own_Got p e below P T (mkF m pc ls (.int x :: st)) := by
  subst hp; exact own_go (fun _ q => XS.i2l X.here hx rfl (hb hby hd) rfl q) k
theorem g_lcmp (X : Stand p l e R s m args below meth c T locs cells slots) (hx : p.tables.exec = Jvm.exec) (hby : c.code = bytes) {x y : Int64} (hd : decode bytes pc = .ok (.lcmp, 1))  (hp : pc + 1 = pc')
    (k : own_Got p e below P T (mkF m pc' ls (.int (lcmpW x y) :: st))) : own_Got p e below P T (mkF m pc ls (.long y :: .long x :: st)) := by
  subst hp; exact own_go (fun _ q => XS.lcmp X.here hx rfl (hb hby hd) rfl q) k
theorem g_iinc (X : Stand p l e R s m args below meth c T locs cells slots) (hx : p.tables.exec = Jvm.exec) (hby : c.code = bytes) {k : Nat} {cst : Int} {x : Int32} (ls' : Array Slot) (hd : decode bytes pc = .ok (.iinc k cst, 3)) (hl : ls[k]? = some (.val (.int x))) (hl' : storeLocals ls k (.int (x + Int32.ofInt cst)) = some ls') (hp : pc + 3 = pc')
    (k : own_Got p e below P T (mkF m pc' ls' (st))) : own_Got p e below P T (mkF m pc ls (st)) := by
  subst hp; exact own_go (fun _ q => XS.iinc X.here hx rfl (hb hby hd) hl hl' q) k
theorem g_dup (X : Stand p l e R s m args below meth c T locs cells slots) (hx : p.tables.exec = Jvm.exec) (hby : c.code = bytes) {x : Value} (hd : decode bytes pc = .ok (.dup, 1)) (hc : x.category = 1) (hp : pc + 1 = pc')
    (k : own_Got p e below P T (mkF m pc' ls (x :: x :: st))) : own_Got p e below P T (mkF m pc ls (x :: st)) := by
  subst hp; exact own_go (fun _ q => XS.dup X.here hx rfl (hb hby hd) rfl hc q) k
theorem g_dupX1 (X : Stand p l e R s m args below meth c T locs cells slots) (hx : p.tables.exec = Jvm.exec) (hby : c.code = bytes) {x y : Value} (hd : decode bytes pc = .ok (.dup_x1, 1)) (hc : x.category = 1) (hc2 : y.category = 1) (hp : pc + 1 = pc')
    (k : own_Got p e below P T (mkF m pc' ls (x :: y :: x :: st))) : own_Got p e below P T (mkF m pc ls (x :: y :: st)) := by
  subst hp; exact own_go (fun _ q => XS.dupX1 X.here hx rfl (hb hby hd) rfl hc hc2 q) k
theorem g_pop (X : Stand p l e R s m args below meth c T locs cells slots) (hx : p.tables.exec = Jvm.exec) (hby : c.code = bytes) {x : Value} (hd : decode bytes pc = .ok (.pop, 1)) (hc : x.category = 1) (hp : pc + 1 = pc')
    (k : own_Got p e below P T (mkF m pc' ls (st))) : own_Got p e below P T (mkF m pc ls (x :: st)) := by
  subst hp; exact own_go (fun _ q => XS.pop X.here hx rfl (hb hby hd) rfl hc q) k
theorem g_dup2 (X : Stand p l e R s m args below meth c T locs cells slots) (hx : p.tables.exec = Jvm.exec) (hby : c.code = bytes) {x y : Value} (hd : decode bytes pc = .ok (.dup2, 1)) (hc : x.category = 1) (hc2 : y.category = 1) (hp : pc + 1 = pc')
    (k : own_Got p e below P T (mkF m pc' ls (x :: y :: x :: y :: st))) : own_Got p e below P T (mkF m pc ls (x :: y :: st)) := by
  subst hp; exact own_go (fun _ q => XT.dup2 X.here hx rfl (hb hby hd) rfl hc hc2 q) k
theorem g_goto (X : Stand p l e R s m args below meth c T locs cells slots) (hx : p.tables.exec = Jvm.exec) (hby : c.code = bytes) {o : Int} (hd : decode bytes pc = .ok (.goto o, 3))  (ho : 0 ≤ (pc : Int) + o) (hp : ((pc : Int) + o).toNat = pc')
    (k : own_Got p e below P T (mkF m pc' ls (st))) : own_Got p e below P T (mkF m pc ls (st)) := by
  exact own_go (fun _ q => XS.goto X.here hx rfl rfl (hb hby hd) ho hp q) k
theorem g_ifT (X : Stand p l e R s m args below meth c T locs cells slots) (hx : p.tables.exec = Jvm.exec) (hby : c.code = bytes) {cd : ClassFile.Cond} {x : Int32} {o : Int} (hd : decode bytes pc = .ok (.ifCond cd o, 3)) (hc : ifCond.holds cd x = true) (ho : 0 ≤ (pc : Int) + o) (hp : ((pc : Int) + o).toNat = pc')
    (k : own_Got p e below P T (mkF m pc' ls (st))) : own_Got p e below P T (mkF m pc ls (.int x :: st)) := by
  exact own_go (fun _ q => XS.ifYes X.here hx rfl rfl (hb hby hd) rfl hc ho hp q) k
theorem g_icT (X : Stand p l e R s m args below meth c T locs cells slots) (hx : p.tables.exec = Jvm.exec) (hby : c.code = bytes) {cd : ClassFile.Cond} {x y : Int32} {o : Int} (hd : decode bytes pc = .ok (.if_icmp cd o, 3)) (hc : if_icmp.holds cd x y = true) (ho : 0 ≤ (pc : Int) + o) (hp : ((pc : Int) + o).toNat = pc')
    (k : own_Got p e below P T (mkF m pc' ls (st))) : own_Got p e below P T (mkF m pc ls (.int y :: .int x :: st)) := by
  exact own_go (fun _ q => XS.icmpYes X.here hx rfl rfl (hb hby hd) rfl hc ho hp q) k
theorem g_inT (X : Stand p l e R s m args below meth c T locs cells slots) (hx : p.tables.exec = Jvm.exec) (hby : c.code = bytes) {o : Int} (hd : decode bytes pc = .ok (.ifnull o, 3))  (ho : 0 ≤ (pc : Int) + o) (hp : ((pc : Int) + o).toNat = pc')
    (k : own_Got p e below P T (mkF m pc' ls (st))) : own_Got p e below P T (mkF m pc ls (.null :: st)) := by
  exact own_go (fun _ q => XS.ifnullYes X.here hx rfl rfl (hb hby hd) rfl ho hp q) k
theorem g_innT (X : Stand p l e R s m args below meth c T locs cells slots) (hx : p.tables.exec = Jvm.exec) (hby : c.code = bytes) {b : Addr} {o : Int} (hd : decode bytes pc = .ok (.ifnonnull o, 3))  (ho : 0 ≤ (pc : Int) + o) (hp : ((pc : Int) + o).toNat = pc')
    (k : own_Got p e below P T (mkF m pc' ls (st))) : own_Got p e below P T (mkF m pc ls (.ref b :: st)) := by
  exact own_go (fun _ q => XS.ifnonnullYes X.here hx rfl rfl (hb hby hd) rfl ho hp q) k
theorem g_ifF (X : Stand p l e R s m args below meth c T locs cells slots) (hx : p.tables.exec = Jvm.exec) (hby : c.code = bytes) {cd : ClassFile.Cond} {o : Int} {x : Int32} (hd : decode bytes pc = .ok (.ifCond cd o, 3)) (hc : ifCond.holds cd x = false) (hp : pc + 3 = pc')
    (k : own_Got p e below P T (mkF m pc' ls (st))) : own_Got p e below P T (mkF m pc ls (.int x :: st)) := by
  subst hp; exact own_go (fun _ q => XS.ifNo X.here hx rfl (hb hby hd) rfl hc q) k
theorem g_icF (X : Stand p l e R s m args below meth c T locs cells slots) (hx : p.tables.exec = Jvm.exec) (hby : c.code = bytes) {cd : ClassFile.Cond} {o : Int} {x y : Int32} (hd : decode bytes pc = .ok (.if_icmp cd o, 3)) (hc : if_icmp.holds cd x y = false) (hp : pc + 3 = pc')
    (k : own_Got p e below P T (mkF m pc' ls (st))) : own_Got p e below P T (mkF m pc ls (.int y :: .int x :: st)) := by
  subst hp; exact own_go (fun _ q => XS.icmpNo X.here hx rfl (hb hby hd) rfl hc q) k
theorem g_inF (X : Stand p l e R s m args below meth c T locs cells slots) (hx : p.tables.exec = Jvm.exec) (hby : c.code = bytes) {o : Int} {b : Addr} (hd : decode bytes pc = .ok (.ifnull o, 3))  (hp : pc + 3 = pc')
    (k : own_Got p e below P T (mkF m pc' ls (st))) : own_Got p e below P T (mkF m pc ls (.ref b :: st)) := by
  subst hp; exact own_go (fun _ q => XS.ifnullNo X.here hx rfl (hb hby hd) rfl q) k
theorem g_innF (X : Stand p l e R s m args below meth c T locs cells slots) (hx : p.tables.exec = Jvm.exec) (hby : c.code = bytes) {o : Int} (hd : decode bytes pc = .ok (.ifnonnull o, 3))  (hp : pc + 3 = pc')
    (k : own_Got p e below P T (mkF m pc' ls (st))) : own_Got p e below P T (mkF m pc ls (.null :: st)) := by
  subst hp; exact own_go (fun _ q => XS.ifnonnullNo X.here hx rfl (hb hby hd) rfl q) k
theorem g_acmp (X : Stand p l e R s m args below meth c T locs cells slots) (hx : p.tables.exec = Jvm.exec) (hby : c.code = bytes) {cd : ACond} {x y : Value} {o : Int} (same : Bool) (hd : decode bytes pc = .ok (.if_acmp cd o, 3)) (h1 : x.isRef = true) (h2 : y.isRef = true) (hq : decide (x = y) = same) (ho : 0 ≤ (pc : Int) + o) (hp : pc' = if acV cd same = true then ((pc : Int) + o).toNat else pc + 3)
    (k : own_Got p e below P T (mkF m pc' ls st)) : own_Got p e below P T (mkF m pc ls (y :: x :: st)) :=
  own_go (fun _ q => Jvm.RoadKit.acmp X hx rfl h1 h2 rfl (hb hby hd) rfl hq ho hp q) k
theorem g_ldcI (X : Stand p l e R s m args below meth c T locs cells slots) (hx : p.tables.exec = Jvm.exec) (hby : c.code = bytes) (hZ : Z.Warmed39 s.vm) {own : String} {index : Nat} {v : Int32} (hown : s.vm.findClass own = some m.cls) (w : (Cond.constant own index v).before a0 Z = true) (hd : decode bytes pc = .ok (.ldc index, 2)) (hp : pc + 2 = pc')
    (k : own_Got p e below P T (mkF m pc' ls (.int v :: st))) : own_Got p e below P T (mkF m pc ls st) := by
  subst hp; exact own_go (X.ldcInt hx hown (mvT hZ w) rfl (hb hby hd)) k
theorem g_ldc2D (X : Stand p l e R s m args below meth c T locs cells slots) (hx : p.tables.exec = Jvm.exec) (hby : c.code = bytes) (hZ : Z.Warmed39 s.vm) {own : String} {index : Nat} {v : UInt64} (hown : s.vm.findClass own = some m.cls) (w : (Cond.constantDouble own index v).before a0 Z = true) (hd : decode bytes pc = .ok (.ldc2_w index, 3)) (hp : pc + 3 = pc')
    (k : own_Got p e below P T (mkF m pc' ls (.double v :: st))) : own_Got p e below P T (mkF m pc ls st) := by
  subst hp; exact own_go (X.ldc2DoubleC hx hown (mvT hZ w) rfl (hb hby hd)) k
theorem g_alen (X : Stand p l e R s m args below meth c T locs cells slots) (hx : p.tables.exec = Jvm.exec) (hby : c.code = bytes) (hZ : Z.Warmed39 s.vm) (eT : T.heap = h) {a : Addr} {kk : ClassId} {ty : FieldType} {n : Int32} {vs : List Value} {d : Value} (F : Arv Z h a kk ty n vs d) (hd : decode bytes pc = .ok (.arraylength, 1)) (hp : pc + 1 = pc')
    (k : own_Got p e below P T (mkF m pc' ls (.int n :: st))) : own_Got p e below P T (mkF m pc ls (.ref a :: st)) := by
  subst hp
  obtain ⟨cl, Ar, -, S, N, -, -⟩ := F
  refine own_go (fun t q => X.arraylength hx (by rw [eT]; exact Ar.1) (State.isArrayOf_alike hZ.alike Ar.2.1) (g := mkF m pc ls (.ref a :: st)) rfl rfl (hb hby hd) t q) ?_
  rw [len_of S N]; exact k
theorem g_iaload (X : Stand p l e R s m args below meth c T locs cells slots) (hx : p.tables.exec = Jvm.exec) (hby : c.code = bytes) (hZ : Z.Warmed39 s.vm) (eT : T.heap = h) {a : Addr} {kk : ClassId} {n : Int32} {vs : List Value} {d v : Value} {j : Int32} (F : Arv Z h a kk .int n vs d) (hj : ¬ j < 0 ∧ j < n) (hv : vs.getD j.toNatClampNeg d = v) (hd : decode bytes pc = .ok (.iaload, 1)) (hp : pc + 1 = pc')
    (k : own_Got p e below P T (mkF m pc' ls (v :: st))) : own_Got p e below P T (mkF m pc ls (.int j :: .ref a :: st)) := by
  subst hp
  obtain ⟨cl, Ar, -, S, N, H, -⟩ := F
  exact own_go (fun t q => X.iaload hx (by rw [eT]; exact Ar.1) (State.isArrayOf_alike hZ.alike Ar.2.1) Ar.2.2 (inb_of S hj) (H.at (inb_of S hj) hv) (g := mkF m pc ls (.int j :: .ref a :: st)) rfl rfl (hb hby hd) t q) k
theorem g_caload (X : Stand p l e R s m args below meth c T locs cells slots) (hx : p.tables.exec = Jvm.exec) (hby : c.code = bytes) (hZ : Z.Warmed39 s.vm) (eT : T.heap = h) {a : Addr} {kk : ClassId} {n : Int32} {vs : List Value} {d v : Value} {j : Int32} (F : Arv Z h a kk .char n vs d) (hj : ¬ j < 0 ∧ j < n) (hv : vs.getD j.toNatClampNeg d = v) (hd : decode bytes pc = .ok (.caload, 1)) (hp : pc + 1 = pc')
    (k : own_Got p e below P T (mkF m pc' ls (v :: st))) : own_Got p e below P T (mkF m pc ls (.int j :: .ref a :: st)) := by
  subst hp
  obtain ⟨cl, Ar, -, S, N, H, -⟩ := F
  exact own_go (fun t q => X.caload hx (by rw [eT]; exact Ar.1) (State.isArrayOf_alike hZ.alike Ar.2.1) Ar.2.2 (inb_of S hj) (H.at (inb_of S hj) hv) (g := mkF m pc ls (.int j :: .ref a :: st)) rfl rfl (hb hby hd) t q) k
theorem g_laload (X : Stand p l e R s m args below meth c T locs cells slots) (hx : p.tables.exec = Jvm.exec) (hby : c.code = bytes) (hZ : Z.Warmed39 s.vm) (eT : T.heap = h) {a : Addr} {kk : ClassId} {n : Int32} {vs : List Value} {d v : Value} {j : Int32} (F : Arv Z h a kk .long n vs d) (hj : ¬ j < 0 ∧ j < n) (hv : vs.getD j.toNatClampNeg d = v) (hd : decode bytes pc = .ok (.laload, 1)) (hp : pc + 1 = pc')
    (k : own_Got p e below P T (mkF m pc' ls (v :: st))) : own_Got p e below P T (mkF m pc ls (.int j :: .ref a :: st)) := by
  subst hp
  obtain ⟨cl, Ar, -, S, N, H, -⟩ := F
  exact own_go (fun t q => X.laload hx (by rw [eT]; exact Ar.1) (State.isArrayOf_alike hZ.alike Ar.2.1) Ar.2.2 (inb_of S hj) (H.at (inb_of S hj) hv) (g := mkF m pc ls (.int j :: .ref a :: st)) rfl rfl (hb hby hd) t q) k
theorem g_baload (X : Stand p l e R s m args below meth c T locs cells slots) (hx : p.tables.exec = Jvm.exec) (hby : c.code = bytes) (hZ : Z.Warmed39 s.vm) (eT : T.heap = h) {a : Addr} {kk : ClassId} {n : Int32} {vs : List Value} {d v : Value} {j : Int32} (F : Arv Z h a kk .byte n vs d) (hj : ¬ j < 0 ∧ j < n) (hv : vs.getD j.toNatClampNeg d = v) (hd : decode bytes pc = .ok (.baload, 1)) (hp : pc + 1 = pc')
    (k : own_Got p e below P T (mkF m pc' ls (v :: st))) : own_Got p e below P T (mkF m pc ls (.int j :: .ref a :: st)) := by
  subst hp
  obtain ⟨cl, Ar, -, S, N, H, -⟩ := F
  exact own_go (fun t q => X.baloadBytes hx (by rw [eT]; exact Ar.1) (State.isArrayOf_alike hZ.alike Ar.2.1) Ar.2.2 (inb_of S hj) (H.at (inb_of S hj) hv) (g := mkF m pc ls (.int j :: .ref a :: st)) rfl rfl (hb hby hd) t q) k
theorem g_daload (X : Stand p l e R s m args below meth c T locs cells slots) (hx : p.tables.exec = Jvm.exec) (hby : c.code = bytes) (hZ : Z.Warmed39 s.vm) (eT : T.heap = h) {a : Addr} {kk : ClassId} {n : Int32} {vs : List Value} {d v : Value} {j : Int32} (F : Arv Z h a kk .double n vs d) (hj : ¬ j < 0 ∧ j < n) (hv : vs.getD j.toNatClampNeg d = v) (hd : decode bytes pc = .ok (.daload, 1)) (hp : pc + 1 = pc')
    (k : own_Got p e below P T (mkF m pc' ls (v :: st))) : own_Got p e below P T (mkF m pc ls (.int j :: .ref a :: st)) := by
  subst hp
  obtain ⟨cl, Ar, -, S, N, H, -⟩ := F
  exact own_go (fun t q => X.daload hx (by rw [eT]; exact Ar.1) (State.isArrayOf_alike hZ.alike Ar.2.1) Ar.2.2 (inb_of S hj) (H.at (inb_of S hj) hv) (g := mkF m pc ls (.int j :: .ref a :: st)) rfl rfl (hb hby hd) t q) k
theorem g_aaload (X : Stand p l e R s m args below meth c T locs cells slots) (hx : p.tables.exec = Jvm.exec) (hby : c.code = bytes) (hZ : Z.Warmed39 s.vm) (eT : T.heap = h) {a : Addr} {kk : ClassId} {ty : FieldType} {n : Int32} {vs : List Value} {d v : Value} {j : Int32} (F : Arv Z h a kk ty n vs d) (ht : ty.isReference = true) (hj : ¬ j < 0 ∧ j < n) (hv : vs.getD j.toNatClampNeg d = v) (hd : decode bytes pc = .ok (.aaload, 1)) (hp : pc + 1 = pc')
    (k : own_Got p e below P T (mkF m pc' ls (v :: st))) : own_Got p e below P T (mkF m pc ls (.int j :: .ref a :: st)) := by
  subst hp
  obtain ⟨cl, Ar, -, S, N, H, -⟩ := F
  exact own_go (fun t q => X.aaload hx (by rw [eT]; exact Ar.1) (State.isArrayOf_alike hZ.alike Ar.2.1) ht Ar.2.2 (inb_of S hj) (H.at (inb_of S hj) hv) (g := mkF m pc ls (.int j :: .ref a :: st)) rfl rfl (hb hby hd) t q) k
theorem a_iastore (X : Stand p l e R s m args below meth c T locs cells slots) (hx : p.tables.exec = Jvm.exec) (hby : c.code = bytes) (hZ : Z.Warmed39 s.vm) (eT : T.heap = h) {a : Addr} {kk : ClassId} {n : Int32} {vs : List Value} {d : Value} {j : Int32} (x : Int32) (i : Nat) (F : Arv Z h a kk .int n vs d) (hj : ¬ j < 0 ∧ j < n) (hi : j.toNatClampNeg = i) (hl : i < vs.length) (hd : decode bytes pc = .ok (.iastore, 1)) :
    ∃ T' h', Stand p l e R s m args below meth c T' (locs ++ [⟨a, j.toNatClampNeg⟩]) cells slots ∧ T'.heap = h' ∧ Wr h h' a j.toNatClampNeg (.int x) ∧ Arv Z h' a kk .int n (vs.set i (.int x)) d ∧ ∀ t, Steps p.tables e below (T'.setTop (mkF m (pc + 1) ls st)) t → Steps p.tables e below (T.setTop (mkF m pc ls (.int x :: .int j :: .ref a :: st))) t := by
  obtain ⟨cl, Ar, q1, S, N, H, Gf⟩ := F
  obtain ⟨T', h', X', e', W, k⟩ := stI X hx hZ eT Ar (j := j) (inb_of S hj) (g := mkF m pc ls (.int x :: .int j :: .ref a :: st)) rfl rfl (hb hby hd)
  exact ⟨T', h', X', e', W, Arv.set Ar q1 S N H Gf (rfl) W i hi hl, k⟩
theorem a_castore (X : Stand p l e R s m args below meth c T locs cells slots) (hx : p.tables.exec = Jvm.exec) (hby : c.code = bytes) (hZ : Z.Warmed39 s.vm) (eT : T.heap = h) {a : Addr} {kk : ClassId} {n : Int32} {vs : List Value} {d : Value} {j : Int32} (x : Int32) (i : Nat) (F : Arv Z h a kk .char n vs d) (hj : ¬ j < 0 ∧ j < n) (hi : j.toNatClampNeg = i) (hl : i < vs.length) (hd : decode bytes pc = .ok (.castore, 1)) :
    ∃ T' h', Stand p l e R s m args below meth c T' (locs ++ [⟨a, j.toNatClampNeg⟩]) cells slots ∧ T'.heap = h' ∧ Wr h h' a j.toNatClampNeg (.int (nar .char x)) ∧ Arv Z h' a kk .char n (vs.set i (.int (nar .char x))) d ∧ ∀ t, Steps p.tables e below (T'.setTop (mkF m (pc + 1) ls st)) t → Steps p.tables e below (T.setTop (mkF m pc ls (.int x :: .int j :: .ref a :: st))) t := by
  obtain ⟨cl, Ar, q1, S, N, H, Gf⟩ := F
  obtain ⟨T', h', X', e', W, k⟩ := stC X hx hZ eT Ar (j := j) (inb_of S hj) (g := mkF m pc ls (.int x :: .int j :: .ref a :: st)) rfl rfl (hb hby hd)
  exact ⟨T', h', X', e', W, Arv.set Ar q1 S N H Gf (fits_nar_char _) W i hi hl, k⟩
theorem a_bastore (X : Stand p l e R s m args below meth c T locs cells slots) (hx : p.tables.exec = Jvm.exec) (hby : c.code = bytes) (hZ : Z.Warmed39 s.vm) (eT : T.heap = h) {a : Addr} {kk : ClassId} {n : Int32} {vs : List Value} {d : Value} {j : Int32} (x : Int32) (i : Nat) (F : Arv Z h a kk .byte n vs d) (hj : ¬ j < 0 ∧ j < n) (hi : j.toNatClampNeg = i) (hl : i < vs.length) (hd : decode bytes pc = .ok (.bastore, 1)) :
    ∃ T' h', Stand p l e R s m args below meth c T' (locs ++ [⟨a, j.toNatClampNeg⟩]) cells slots ∧ T'.heap = h' ∧ Wr h h' a j.toNatClampNeg (.int (nar .byte x)) ∧ Arv Z h' a kk .byte n (vs.set i (.int (nar .byte x))) d ∧ ∀ t, Steps p.tables e below (T'.setTop (mkF m (pc + 1) ls st)) t → Steps p.tables e below (T.setTop (mkF m pc ls (.int x :: .int j :: .ref a :: st))) t := by
  obtain ⟨cl, Ar, q1, S, N, H, Gf⟩ := F
  obtain ⟨T', h', X', e', W, k⟩ := stB X hx hZ eT Ar (j := j) (inb_of S hj) (g := mkF m pc ls (.int x :: .int j :: .ref a :: st)) rfl rfl (hb hby hd)
  exact ⟨T', h', X', e', W, Arv.set Ar q1 S N H Gf (fits_nar_byte _) W i hi hl, k⟩
theorem a_lastore (X : Stand p l e R s m args below meth c T locs cells slots) (hx : p.tables.exec = Jvm.exec) (hby : c.code = bytes) (hZ : Z.Warmed39 s.vm) (eT : T.heap = h) {a : Addr} {kk : ClassId} {n : Int32} {vs : List Value} {d : Value} {j : Int32} (x : Int64) (i : Nat) (F : Arv Z h a kk .long n vs d) (hj : ¬ j < 0 ∧ j < n) (hi : j.toNatClampNeg = i) (hl : i < vs.length) (hd : decode bytes pc = .ok (.lastore, 1)) :
    ∃ T' h', Stand p l e R s m args below meth c T' (locs ++ [⟨a, j.toNatClampNeg⟩]) cells slots ∧ T'.heap = h' ∧ Wr h h' a j.toNatClampNeg (.long x) ∧ Arv Z h' a kk .long n (vs.set i (.long x)) d ∧ ∀ t, Steps p.tables e below (T'.setTop (mkF m (pc + 1) ls st)) t → Steps p.tables e below (T.setTop (mkF m pc ls (.long x :: .int j :: .ref a :: st))) t := by
  obtain ⟨cl, Ar, q1, S, N, H, Gf⟩ := F
  obtain ⟨T', h', X', e', W, k⟩ := stJ X hx hZ eT Ar (j := j) (inb_of S hj) (g := mkF m pc ls (.long x :: .int j :: .ref a :: st)) rfl rfl (hb hby hd)
  exact ⟨T', h', X', e', W, Arv.set Ar q1 S N H Gf (rfl) W i hi hl, k⟩
theorem a_dastore (X : Stand p l e R s m args below meth c T locs cells slots) (hx : p.tables.exec = Jvm.exec) (hby : c.code = bytes) (hZ : Z.Warmed39 s.vm) (eT : T.heap = h) {a : Addr} {kk : ClassId} {n : Int32} {vs : List Value} {d : Value} {j : Int32} (x : UInt64) (i : Nat) (F : Arv Z h a kk .double n vs d) (hj : ¬ j < 0 ∧ j < n) (hi : j.toNatClampNeg = i) (hl : i < vs.length) (hd : decode bytes pc = .ok (.dastore, 1)) :
    ∃ T' h', Stand p l e R s m args below meth c T' (locs ++ [⟨a, j.toNatClampNeg⟩]) cells slots ∧ T'.heap = h' ∧ Wr h h' a j.toNatClampNeg (.double x) ∧ Arv Z h' a kk .double n (vs.set i (.double x)) d ∧ ∀ t, Steps p.tables e below (T'.setTop (mkF m (pc + 1) ls st)) t → Steps p.tables e below (T.setTop (mkF m pc ls (.double x :: .int j :: .ref a :: st))) t := by
  obtain ⟨cl, Ar, q1, S, N, H, Gf⟩ := F
  obtain ⟨T', h', X', e', W, k⟩ := stD X hx hZ eT Ar (j := j) (inb_of S hj) (g := mkF m pc ls (.double x :: .int j :: .ref a :: st)) rfl rfl (hb hby hd)
  exact ⟨T', h', X', e', W, Arv.set Ar q1 S N H Gf (rfl) W i hi hl, k⟩
theorem a_aastore (X : Stand p l e R s m args below meth c T locs cells slots) (hx : p.tables.exec = Jvm.exec) (hby : c.code = bytes) (hZ : Z.Warmed39 s.vm) (eT : T.heap = h) {a b : Addr} {kk : ClassId} {Cn : String} {n : Int32} {vs : List Value} {d : Value} {j : Int32} (i : Nat) (F : Arv Z h a kk (.object Cn) n vs d) (O : Ovr Z kk Cn) (I : Ins Z h b Cn true) (hj : ¬ j < 0 ∧ j < n) (hi : j.toNatClampNeg = i) (hl : i < vs.length) (hd : decode bytes pc = .ok (.aastore, 1)) :
    ∃ T' h', Stand p l e R s m args below meth c T' (locs ++ [⟨a, j.toNatClampNeg⟩]) cells slots ∧ T'.heap = h' ∧ Wr h h' a j.toNatClampNeg (.ref b) ∧ Arv Z h' a kk (.object Cn) n (vs.set i (.ref b)) d ∧ ∀ t, Steps p.tables e below (T'.setTop (mkF m (pc + 1) ls st)) t → Steps p.tables e below (T.setTop (mkF m pc ls (.ref b :: .int j :: .ref a :: st))) t := by
  obtain ⟨cl, Ar, q1, S, N, H, Gf⟩ := F
  obtain ⟨T', h', X', e', W, k⟩ := stR X hx hZ eT Ar (j := j) (inb_of S hj) rfl (Sto.ofV Ar q1 O I) (g := mkF m pc ls (.ref b :: .int j :: .ref a :: st)) rfl rfl (hb hby hd)
  exact ⟨T', h', X', e', W, Arv.set Ar q1 S N H Gf rfl W i hi hl, k⟩
theorem own_stakeep {C n d : String} {v : Value} {K : String} {a : Addr} (F : Sta Z h C n d v) (k : Keep h h' [a]) (E : Exa Z h a K) : Sta Z h' C n d v := by
  obtain ⟨cf, i, kk, f, st, cell, h1, h2, h3, h4, h5, h6, h7⟩ := F
  refine ⟨cf, i, kk, f, st, cell, h1, h2, h3, h4, k.2.1 _ _ h5 (fun q => ?_), h6, h7⟩
  obtain ⟨c2, k2, g1, -, -, g4, -⟩ := E
  cases List.mem_singleton.mp q
  cases h5.symm.trans g1
  rw [g4] at h6; cases h6
theorem own_stakeep0 {C n d : String} {v : Value} (F : Sta Z h C n d v) (k : Keep h h' []) : Sta Z h' C n d v := by
  obtain ⟨cf, i, kk, f, st, cell, h1, h2, h3, h4, h5, h6, h7⟩ := F
  exact ⟨cf, i, kk, f, st, cell, h1, h2, h3, h4, k.2.1 _ _ h5 nin0, h6, h7⟩
theorem own_eqI {t : Term} {first : State} {o : Option Outcome} {idx : List Nat} {z : Int32} (hq : (Cond.eq t (.int z)).value args first o s idx = some true) : t.eval args first o idx s = some (.int z) := by
  obtain ⟨x, y, hx, hy, kk, -⟩ := cmp_v (Or.inl hq)
  have hy' : y = .int z := Option.some.inj (hy.symm.trans rfl)
  subst hy'
  cases x with
  | int x => simp only [Cond.value, hx, hy] at hq; simp at hq; rw [hx, hq]
  | _ => simp [Kin, Value.isRef] at kk
theorem own_eqR {t u : Term} {first : State} {o : Option Outcome} {idx : List Nat} {b : Addr} (hq : (Cond.eq t u).value args first o s idx = some true) (hu : u.eval args first o idx s = some (.ref b)) : t.eval args first o idx s = some (.ref b) := by
  obtain ⟨x, y, hx, hy, kk, kk2⟩ := cmp_v (Or.inl hq)
  cases hu.symm.trans hy
  have hr : x.isRef = true := kk2.2
  have := gotT (eq_R hx hu hr rfl) hq
  rw [hx, this]
theorem g_i2d (X : Stand p l e R s m args below meth c T locs cells slots) (hx : p.tables.exec = Jvm.exec) (hby : c.code = bytes) {x : Int32} (hd : decode bytes pc = .ok (.i2d, 1))  (hp : pc + 1 = pc')
    (k : own_Got p e below P T (mkF m pc' ls (.double (FP.i2d x) :: st))) : own_Got p e below P T (mkF m pc ls (.int x :: st)) := by
  subst hp; exact own_go (fun _ q => XS.i2dS X.here hx rfl (hb hby hd) rfl rfl q) k
theorem g_dcmp (X : Stand p l e R s m args below meth c T locs cells slots) (hx : p.tables.exec = Jvm.exec) (hby : c.code = bytes) {o : CmpOp} {x y : UInt64} (hd : decode bytes pc = .ok (.dcmp o, 1))  (hp : pc + 1 = pc')
    (k : own_Got p e below P T (mkF m pc' ls (.int (cmpValue (FP.dcmp x y) o) :: st))) : own_Got p e below P T (mkF m pc ls (.double y :: .double x :: st)) := by
  subst hp; exact own_go (fun _ q => XS.dcmpS X.here hx rfl (hb hby hd) rfl rfl q) k
theorem g_dconst0 (X : Stand p l e R s m args below meth c T locs cells slots) (hx : p.tables.exec = Jvm.exec) (hby : c.code = bytes) (z : UInt64) (hd : decode bytes pc = .ok (.dconst 0, 1)) (hz : FP.dconst0 = z) (hp : pc + 1 = pc')
    (k : own_Got p e below P T (mkF m pc' ls (.double z :: st))) : own_Got p e below P T (mkF m pc ls (st)) := by
  subst hp; exact own_go (fun _ q => XS.dconst0 X.here hx rfl (hb hby hd) hz q) k
theorem g_dadd (X : Stand p l e R s m args below meth c T locs cells slots) (hx : p.tables.exec = Jvm.exec) (hby : c.code = bytes) {x y : UInt64} (hd : decode bytes pc = .ok (.dadd, 1)) (hn : Jvm.Free.Fl.NoNaN64 (FP.dadd x y)) (hp : pc + 1 = pc')
    (k : own_Got p e below P T (mkF m pc' ls (.double (FP.dadd x y) :: st))) : own_Got p e below P T (mkF m pc ls (.double y :: .double x :: st)) := by
  subst hp; exact own_go (fun _ q => XS.daddS X.here hx rfl (hb hby hd) rfl hn rfl q) k
theorem g_dsub (X : Stand p l e R s m args below meth c T locs cells slots) (hx : p.tables.exec = Jvm.exec) (hby : c.code = bytes) {x y : UInt64} (hd : decode bytes pc = .ok (.dsub, 1)) (hn : Jvm.Free.Fl.NoNaN64 (FP.dsub x y)) (hp : pc + 1 = pc')
    (k : own_Got p e below P T (mkF m pc' ls (.double (FP.dsub x y) :: st))) : own_Got p e below P T (mkF m pc ls (.double y :: .double x :: st)) := by
  subst hp; exact own_go (fun _ q => XS.dsubS X.here hx rfl (hb hby hd) rfl hn rfl q) k
theorem g_dmul (X : Stand p l e R s m args below meth c T locs cells slots) (hx : p.tables.exec = Jvm.exec) (hby : c.code = bytes) {x y : UInt64} (hd : decode bytes pc = .ok (.dmul, 1)) (hn : Jvm.Free.Fl.NoNaN64 (FP.dmul x y)) (hp : pc + 1 = pc')
    (k : own_Got p e below P T (mkF m pc' ls (.double (FP.dmul x y) :: st))) : own_Got p e below P T (mkF m pc ls (.double y :: .double x :: st)) := by
  subst hp; exact own_go (fun _ q => XS.dmulS X.here hx rfl (hb hby hd) rfl hn rfl q) k
theorem g_ddiv (X : Stand p l e R s m args below meth c T locs cells slots) (hx : p.tables.exec = Jvm.exec) (hby : c.code = bytes) {x y : UInt64} (hd : decode bytes pc = .ok (.ddiv, 1)) (hn : Jvm.Free.Fl.NoNaN64 (FP.ddiv x y)) (hp : pc + 1 = pc')
    (k : own_Got p e below P T (mkF m pc' ls (.double (FP.ddiv x y) :: st))) : own_Got p e below P T (mkF m pc ls (.double y :: .double x :: st)) := by
  subst hp; exact own_go (fun _ q => XS.ddivS X.here hx rfl (hb hby hd) rfl hn rfl q) k
theorem own_narR {t : FieldType} {w : Value} (ht : t.isReference = true) (hw : w.isRef = true) : narrow t w = w := by rcases ref_cases hw with rfl | ⟨a, rfl⟩ <;> cases t <;> first | rfl | (cases ht)
theorem own_fitR {t : FieldType} {w : Value} (ht : t.isReference = true) (hw : w.isRef = true) : fits t w = true := by rcases ref_cases hw with rfl | ⟨a, rfl⟩ <;> cases t <;> first | rfl | (cases ht)
theorem own_nb (x : Int32) : nar .byte (x.toInt8.toInt32) = x.toInt8.toInt32 := by
  show (x.toInt8.toInt32).toInt8.toInt32 = x.toInt8.toInt32
  simp
theorem own_nc (x : Int32) : nar .char (x.toUInt32.toUInt16.toUInt32.toInt32) = x.toUInt32.toUInt16.toUInt32.toInt32 := by
  show (x.toUInt32.toUInt16.toUInt32.toInt32).toUInt32.toUInt16.toUInt32.toInt32 = _
  have q : ∀ u : UInt16, u.toUInt32.toInt32.toUInt32.toUInt16 = u := fun u => by simp
  rw [q]
end OwnKit
section OwnWide
variable {p : Program} {l : Launch} {e : Env} {R : Room} {s : State} {m : MethodId} {args : Array Value} {below : List Frame} {meth : Method} {c : Code} {T T' : State} {locs : List Loc} {cells slots : Nat} {P : Outcome → State → Prop} {Q : Option Value → Heap → List Loc → Prop} {cC cS : Nat} {bytes : ByteArray} {ls : Array Slot} {st : List Value} {pc pc' : Nat} {g g' : JFrame} {Z : State} {a0 : Array Value} {h h' : Heap}
variable {vm : Vm} {nn : Nat} {EL : List (String × Nat)}
def own_EndW (Z : State) (EL : List (String × Nat)) (s : State) (Q : Option Value → Heap → List Loc → Prop) (cC cS : Nat) (o : Outcome) (U : State) : Prop := ∃ v L, o = .returned v ∧ Q v U.heap L ∧ CHr Z EL s.vm s.heap U.vm U.heap ∧ ReturnedEndW s o U L cC cS
theorem own_safe_null {a : Addr} (hal : Z.vm.Alike vm) (E : Exa Z h a "java/lang/String") (F : Fld Z h a "java/lang/String" "value" "[B" .null) : Safe Z EL vm h a := fun B => by
  obtain ⟨cell, k, e1, e2, e3, -, -⟩ := E
  obtain ⟨pp, -, u, b, -, q, -, S, rfl | rfl⟩ := B
  · obtain ⟨cf, ci, kk, i, f, f1, f2, f3, f4, f5, f6, f7⟩ := F
    obtain ⟨cS, ⟨⟨s1, s2, s3, ⟨cv, kv, iv, s4, s4'⟩, -, s6, -, s8, -⟩, -, -⟩, -⟩ := S
    obtain ⟨kv', z4⟩ := ff_back (U := Wst Z vm h) hal s4
    have e4 := z4.symm.trans f2
    simp only [Option.some.injEq, Prod.mk.injEq] at e4
    cases (show h[q.sa]? = some q.sC from s1).symm.trans f1
    rw [← e4.2.2.2, s8] at f7
    simp at f7
  · obtain ⟨cS, -, -, f, -⟩ := id S
    have f : vm.findClass "[B" = some q.SA.cls := f
    cases (show h[q.sd]? = some q.SA from S.hd).symm.trans e1
    rw [hal.findClass] at f
    obtain ⟨k1, q1, q2⟩ := Vm.findClass_spec f
    obtain ⟨k2, q3, q4⟩ := Vm.findClass_spec e2
    cases q1.symm.trans q3
    have := q2.symm.trans q4
    simp at this
theorem own_retVW (X : Stand p l e R (s.setVm vm) m args below meth c T locs cells slots) (hx : p.tables.exec = Jvm.exec) (hby : c.code = bytes) (hS : s.Since vm nn) (hn : nn ≤ h.size) (hZ : Z.Warmed39 (s.setVm vm).vm) (hEL : EW Z a0 EL) (eT : T.heap = h) (CR : CHr Z EL s.vm s.heap vm h) (hlk : meth.locks = false) (hret : meth.sig.returnType = none) (hd : decode bytes pc = .ok (.return_, 1)) (hc : cells ≤ cC) (hs : slots ≤ cS)
    (hq : Q none T.heap locs) : own_Got p e below (own_EndW Z EL s Q cC cS) T (mkF m pc ls []) := by
  subst eT
  have CE : CHr Z EL s.vm s.heap T.vm T.heap := CR.trans (CHv.at X hZ hEL CR.1)
  obtain ⟨fs, hr, hrun, hended, r1, r2, r3, hsame⟩ := X.leaveW hS hn (v := none) (fun _ => rfl) hlk
  exact ⟨_, _, X.returnOut hx hret (hb hby hd) hr, hrun, hended, _, _, rfl, hq, CE, r1, r2, r3, hsame.mono hc hs⟩
theorem own_retIW (X : Stand p l e R (s.setVm vm) m args below meth c T locs cells slots) (hx : p.tables.exec = Jvm.exec) (hby : c.code = bytes) (hS : s.Since vm nn) (hn : nn ≤ h.size) (hZ : Z.Warmed39 (s.setVm vm).vm) (hEL : EW Z a0 EL) (eT : T.heap = h) (CR : CHr Z EL s.vm s.heap vm h) (hlk : meth.locks = false) (hret : meth.sig.returnType = some .int) (hd : decode bytes pc = .ok (.ireturn, 1)) (hc : cells ≤ cC) (hs : slots ≤ cS) {z : Int32}
    (hq : Q (some (.int z)) T.heap locs) : own_Got p e below (own_EndW Z EL s Q cC cS) T (mkF m pc ls (.int z :: st)) := by
  subst eT
  have CE : CHr Z EL s.vm s.heap T.vm T.heap := CR.trans (CHv.at X hZ hEL CR.1)
  obtain ⟨fs, hr, hrun, hended, r1, r2, r3, hsame⟩ := X.leaveW hS hn (v := some (.int z)) (fun h => by rw [hret] at h; cases h) hlk
  exact ⟨_, _, retOut X hx hret rfl (Or.inl ⟨rfl, Or.inl rfl, _, rfl⟩) (hb hby hd) hr, hrun, hended, _, _, rfl, hq, CE, r1, r2, r3, hsame.mono hc hs⟩
theorem own_retLW (X : Stand p l e R (s.setVm vm) m args below meth c T locs cells slots) (hx : p.tables.exec = Jvm.exec) (hby : c.code = bytes) (hS : s.Since vm nn) (hn : nn ≤ h.size) (hZ : Z.Warmed39 (s.setVm vm).vm) (hEL : EW Z a0 EL) (eT : T.heap = h) (CR : CHr Z EL s.vm s.heap vm h) (hlk : meth.locks = false) (hret : meth.sig.returnType = some .long) (hd : decode bytes pc = .ok (.lreturn, 1)) (hc : cells ≤ cC) (hs : slots ≤ cS) {z : Int64}
    (hq : Q (some (.long z)) T.heap locs) : own_Got p e below (own_EndW Z EL s Q cC cS) T (mkF m pc ls (.long z :: st)) := by
  subst eT
  have CE : CHr Z EL s.vm s.heap T.vm T.heap := CR.trans (CHv.at X hZ hEL CR.1)
  obtain ⟨fs, hr, hrun, hended, r1, r2, r3, hsame⟩ := X.leaveW hS hn (v := some (.long z)) (fun h => by rw [hret] at h; cases h) hlk
  exact ⟨_, _, retOut X hx hret rfl (Or.inr (Or.inl ⟨rfl, rfl, _, rfl⟩)) (hb hby hd) hr, hrun, hended, _, _, rfl, hq, CE, r1, r2, r3, hsame.mono hc hs⟩
theorem own_retDW (X : Stand p l e R (s.setVm vm) m args below meth c T locs cells slots) (hx : p.tables.exec = Jvm.exec) (hby : c.code = bytes) (hS : s.Since vm nn) (hn : nn ≤ h.size) (hZ : Z.Warmed39 (s.setVm vm).vm) (hEL : EW Z a0 EL) (eT : T.heap = h) (CR : CHr Z EL s.vm s.heap vm h) (hlk : meth.locks = false) (hret : meth.sig.returnType = some .double) (hd : decode bytes pc = .ok (.dreturn, 1)) (hc : cells ≤ cC) (hs : slots ≤ cS) {z : UInt64}
    (hq : Q (some (.double z)) T.heap locs) : own_Got p e below (own_EndW Z EL s Q cC cS) T (mkF m pc ls (.double z :: st)) := by
  subst eT
  have CE : CHr Z EL s.vm s.heap T.vm T.heap := CR.trans (CHv.at X hZ hEL CR.1)
  obtain ⟨fs, hr, hrun, hended, r1, r2, r3, hsame⟩ := X.leaveW hS hn (v := some (.double z)) (fun h => by rw [hret] at h; cases h) hlk
  exact ⟨_, _, retOut X hx hret rfl (Or.inr (Or.inr (Or.inl ⟨rfl, rfl, _, rfl⟩))) (hb hby hd) hr, hrun, hended, _, _, rfl, hq, CE, r1, r2, r3, hsame.mono hc hs⟩
theorem own_retNW (X : Stand p l e R (s.setVm vm) m args below meth c T locs cells slots) (hx : p.tables.exec = Jvm.exec) (hby : c.code = bytes) (hS : s.Since vm nn) (hn : nn ≤ h.size) (hZ : Z.Warmed39 (s.setVm vm).vm) (hEL : EW Z a0 EL) (eT : T.heap = h) (CR : CHr Z EL s.vm s.heap vm h) (hlk : meth.locks = false) {t : FieldType} (hret : meth.sig.returnType = some t) (ht : t = .boolean ∨ t = .byte ∨ t = .char ∨ t = .short) (hd : decode bytes pc = .ok (.ireturn, 1)) (hc : cells ≤ cC) (hs : slots ≤ cS) {z : Int32}
    (hq : Q (some (.int (nar t z))) T.heap locs) : own_Got p e below (own_EndW Z EL s Q cC cS) T (mkF m pc ls (.int z :: st)) := by
  subst eT
  have CE : CHr Z EL s.vm s.heap T.vm T.heap := CR.trans (CHv.at X hZ hEL CR.1)
  obtain ⟨fs, hr, hrun, hended, r1, r2, r3, hsame⟩ := X.leaveW hS hn (v := some (.int (nar t z))) (fun h => by rw [hret] at h; cases h) hlk
  exact ⟨_, _, retN X hx hret ht (hb hby hd) hr, hrun, hended, _, _, rfl, hq, CE, r1, r2, r3, hsame.mono hc hs⟩
theorem own_retRW (X : Stand p l e R (s.setVm vm) m args below meth c T locs cells slots) (hx : p.tables.exec = Jvm.exec) (hby : c.code = bytes) (hS : s.Since vm nn) (hn : nn ≤ h.size) (hZ : Z.Warmed39 (s.setVm vm).vm) (hEL : EW Z a0 EL) (eT : T.heap = h) (CR : CHr Z EL s.vm s.heap vm h) (hlk : meth.locks = false) {t : FieldType} (hret : meth.sig.returnType = some t) (ht : t.isReference = true) (hd : decode bytes pc = .ok (.areturn, 1)) (hc : cells ≤ cC) (hs : slots ≤ cS) {w : Value} (hw : w.isRef = true)
    (hq : Q (some w) T.heap locs) : own_Got p e below (own_EndW Z EL s Q cC cS) T (mkF m pc ls (w :: st)) := by
  subst eT
  have CE : CHr Z EL s.vm s.heap T.vm T.heap := CR.trans (CHv.at X hZ hEL CR.1)
  obtain ⟨fs, hr, hrun, hended, r1, r2, r3, hsame⟩ := X.leaveW hS hn (v := some w) (fun h => by rw [hret] at h; cases h) hlk
  have hnw : narrow t w = w := by rcases ref_cases hw with rfl | ⟨a, rfl⟩ <;> cases t <;> first | rfl | (cases ht)
  exact ⟨_, _, retOut X hx hret hnw (Or.inr (Or.inr (Or.inr (Or.inr ⟨rfl, ht, hw⟩)))) (hb hby hd) hr, hrun, hended, _, _, rfl, hq, CE, r1, r2, r3, hsame.mono hc hs⟩
end OwnWide
theorem own_EL {Z : State} {aT : Array Value} (hw : ∀ d ∈ tables_1, d.before aT Z = true) : EW Z aT consts_1 := (EW.cons (hw _ (List.mem_of_getElem? (i := 0) rfl)) (by decide +kernel) (EW.cons (hw _ (List.mem_of_getElem? (i := 8) rfl)) (by decide +kernel) EW.nil))
theorem own_wS {Z : State} {aT : Array Value} (hw : ∀ d ∈ tables_1, d.before aT Z = true) : ∀ a ∈ Bundle.stringAtoms, a.before aT Z = true := fun d hd => hw d ((by decide +kernel : ∀ d ∈ Bundle.stringAtoms, d ∈ tables_1) d hd)
theorem own_getD (L : List Int32) (n : Nat) : (L.map Value.int).getD n (.int (0 : Int32)) = .int (L.getD n 0) := by
  induction L generalizing n with
  | nil => rfl
  | cons a t ih => cases n with
    | zero => rfl
    | succ n => exact ih n
theorem own_lt16 {i : Int32} (h : ¬ ((15 : Int32) < i)) : i < (16 : Int32) := by
  rw [Int32.lt_iff_toInt_lt] at *
  have e1 : (15 : Int32).toInt = 15 := by decide
  have e2 : (16 : Int32).toInt = 16 := by decide
  omega
theorem own_dd (y : Int32) : 0 ≤ (y &&& (15 : Int32)).toInt ∧ (y &&& (15 : Int32)).toInt ≤ 15 := by
  have h := c_and y 15 (by decide)
  exact h
theorem own_d0 (y : Int32) : ¬ ((y &&& (15 : Int32)) < (0 : Int32)) := by
  have h := own_dd y
  rw [Int32.lt_iff_toInt_lt]
  have e1 : (0 : Int32).toInt = 0 := by decide
  omega
theorem own_d1 (y : Int32) : (y &&& (15 : Int32)) < (16 : Int32) := by
  have h := own_dd y
  rw [Int32.lt_iff_toInt_lt]
  have e1 : (16 : Int32).toInt = 16 := by decide
  omega

def own_lo (i : Int32) : Int32 := ([48, 49, 50, 51, 52, 53, 54, 55, 56, 57, 97, 98, 99, 100, 101, 102] : List Int32).getD i.toNatClampNeg 0
theorem own_elo (i : Int32) : ([(.int (48 : Int32)), (.int (49 : Int32)), (.int (50 : Int32)), (.int (51 : Int32)), (.int (52 : Int32)), (.int (53 : Int32)), (.int (54 : Int32)), (.int (55 : Int32)), (.int (56 : Int32)), (.int (57 : Int32)), (.int (97 : Int32)), (.int (98 : Int32)), (.int (99 : Int32)), (.int (100 : Int32)), (.int (101 : Int32)), (.int (102 : Int32))] : List Value).getD (i).toNatClampNeg (.int (0 : Int32)) = .int (own_lo i) := own_getD [48, 49, 50, 51, 52, 53, 54, 55, 56, 57, 97, 98, 99, 100, 101, 102] _
def own_up (i : Int32) : Int32 := ([48, 49, 50, 51, 52, 53, 54, 55, 56, 57, 65, 66, 67, 68, 69, 70] : List Int32).getD i.toNatClampNeg 0
theorem own_eup (i : Int32) : ([(.int (48 : Int32)), (.int (49 : Int32)), (.int (50 : Int32)), (.int (51 : Int32)), (.int (52 : Int32)), (.int (53 : Int32)), (.int (54 : Int32)), (.int (55 : Int32)), (.int (56 : Int32)), (.int (57 : Int32)), (.int (65 : Int32)), (.int (66 : Int32)), (.int (67 : Int32)), (.int (68 : Int32)), (.int (69 : Int32)), (.int (70 : Int32))] : List Value).getD (i).toNatClampNeg (.int (0 : Int32)) = .int (own_up i) := own_getD [48, 49, 50, 51, 52, 53, 54, 55, 56, 57, 65, 66, 67, 68, 69, 70] _
theorem d_val_0 : decode prog_55_method_2_code 0 = .ok (.iload_n 0, 1) := by decide +kernel
theorem d_val_1 : decode prog_55_method_2_code 1 = .ok (.bipush 48, 2) := by decide +kernel
theorem d_val_3 : decode prog_55_method_2_code 3 = .ok (.if_icmp .lt 14, 3) := by decide +kernel
theorem d_val_6 : decode prog_55_method_2_code 6 = .ok (.iload_n 0, 1) := by decide +kernel
theorem d_val_7 : decode prog_55_method_2_code 7 = .ok (.bipush 57, 2) := by decide +kernel
theorem d_val_9 : decode prog_55_method_2_code 9 = .ok (.if_icmp .gt 8, 3) := by decide +kernel
theorem d_val_12 : decode prog_55_method_2_code 12 = .ok (.iload_n 0, 1) := by decide +kernel
theorem d_val_13 : decode prog_55_method_2_code 13 = .ok (.bipush 48, 2) := by decide +kernel
theorem d_val_15 : decode prog_55_method_2_code 15 = .ok (.isub, 1) := by decide +kernel
theorem d_val_16 : decode prog_55_method_2_code 16 = .ok (.ireturn, 1) := by decide +kernel
theorem d_val_17 : decode prog_55_method_2_code 17 = .ok (.iload_n 0, 1) := by decide +kernel
theorem d_val_18 : decode prog_55_method_2_code 18 = .ok (.bipush 97, 2) := by decide +kernel
theorem d_val_20 : decode prog_55_method_2_code 20 = .ok (.if_icmp .lt 17, 3) := by decide +kernel
theorem d_val_23 : decode prog_55_method_2_code 23 = .ok (.iload_n 0, 1) := by decide +kernel
theorem d_val_24 : decode prog_55_method_2_code 24 = .ok (.bipush 102, 2) := by decide +kernel
theorem d_val_26 : decode prog_55_method_2_code 26 = .ok (.if_icmp .gt 11, 3) := by decide +kernel
theorem d_val_29 : decode prog_55_method_2_code 29 = .ok (.iload_n 0, 1) := by decide +kernel
theorem d_val_30 : decode prog_55_method_2_code 30 = .ok (.bipush 97, 2) := by decide +kernel
theorem d_val_32 : decode prog_55_method_2_code 32 = .ok (.isub, 1) := by decide +kernel
theorem d_val_33 : decode prog_55_method_2_code 33 = .ok (.bipush 10, 2) := by decide +kernel
theorem d_val_35 : decode prog_55_method_2_code 35 = .ok (.iadd, 1) := by decide +kernel
theorem d_val_36 : decode prog_55_method_2_code 36 = .ok (.ireturn, 1) := by decide +kernel
theorem d_val_37 : decode prog_55_method_2_code 37 = .ok (.iload_n 0, 1) := by decide +kernel
theorem d_val_38 : decode prog_55_method_2_code 38 = .ok (.bipush 65, 2) := by decide +kernel
theorem d_val_40 : decode prog_55_method_2_code 40 = .ok (.if_icmp .lt 17, 3) := by decide +kernel
theorem d_val_43 : decode prog_55_method_2_code 43 = .ok (.iload_n 0, 1) := by decide +kernel
theorem d_val_44 : decode prog_55_method_2_code 44 = .ok (.bipush 70, 2) := by decide +kernel
theorem d_val_46 : decode prog_55_method_2_code 46 = .ok (.if_icmp .gt 11, 3) := by decide +kernel
theorem d_val_49 : decode prog_55_method_2_code 49 = .ok (.iload_n 0, 1) := by decide +kernel
theorem d_val_50 : decode prog_55_method_2_code 50 = .ok (.bipush 65, 2) := by decide +kernel
theorem d_val_52 : decode prog_55_method_2_code 52 = .ok (.isub, 1) := by decide +kernel
theorem d_val_53 : decode prog_55_method_2_code 53 = .ok (.bipush 10, 2) := by decide +kernel
theorem d_val_55 : decode prog_55_method_2_code 55 = .ok (.iadd, 1) := by decide +kernel
theorem d_val_56 : decode prog_55_method_2_code 56 = .ok (.ireturn, 1) := by decide +kernel
theorem d_val_57 : decode prog_55_method_2_code 57 = .ok (.iconst (-1), 1) := by decide +kernel
theorem d_val_58 : decode prog_55_method_2_code 58 = .ok (.ireturn, 1) := by decide +kernel
theorem pn0 : plainName "com/example/lexsign/lexsign/util/HexDigit" = true := by first | (simp [plainName, overriddenIn]; done) | decide +kernel
theorem ef_val (m : MethodId) (x : Int32) : entryFrame m #[(.int x)] 1 = mkF m 0 #[.val (.int x)] [] := by first | (simp [entryFrame, mkF, argsToLocals, Value.category]; done) | rfl
def F_val (x : Int32) : Int32 := if x < (48 : Int32) then (if x < (97 : Int32) then (if x < (65 : Int32) then ((-1 : Int32)) else (if (70 : Int32) < x then ((-1 : Int32)) else (((x - (65 : Int32)) + (10 : Int32))))) else (if (102 : Int32) < x then (if x < (65 : Int32) then ((-1 : Int32)) else (if (70 : Int32) < x then ((-1 : Int32)) else (((x - (65 : Int32)) + (10 : Int32))))) else (((x - (97 : Int32)) + (10 : Int32))))) else (if (57 : Int32) < x then (if x < (97 : Int32) then (if x < (65 : Int32) then ((-1 : Int32)) else (if (70 : Int32) < x then ((-1 : Int32)) else (((x - (65 : Int32)) + (10 : Int32))))) else (if (102 : Int32) < x then (if x < (65 : Int32) then ((-1 : Int32)) else (if (70 : Int32) < x then ((-1 : Int32)) else (((x - (65 : Int32)) + (10 : Int32))))) else (((x - (97 : Int32)) + (10 : Int32))))) else ((x - (48 : Int32))))
def Q_val (Z : State) (x : Int32) (h0 : Heap) (n0 : Nat) (v : Option Value) (h : Heap) (L : List Loc) : Prop := v = some (.int (F_val x)) ∧ Fr n0 L ∧ h = h0
set_option maxRecDepth 65536 in
set_option maxHeartbeats 40000000 in
theorem rm_val (l : Launch) (Z : State) (aT : Array Value) (hw : ∀ d ∈ tables_1, d.before aT Z = true) (ws : List Jvm.Cond) (x : Int32) (h0 : Heap) (n0 : Nat) (Z0 : n0 ≤ h0.size) :
    MetFree l (⟨"com/example/lexsign/lexsign/util/HexDigit", "value", "(C)I"⟩ : MethodName) (head1 (Jvm.Cond.code (⟨"com/example/lexsign/lexsign/util/HexDigit", "value", "(C)I"⟩ : MethodName) prog_55_method_2_code 1 (some .int) :: ws) ({ frames := 0, cells := 0, slots := 0, locals := 0 } : Room)) (fun a U => a = #[(.int x)] ∧ Z.Warmed39 U.vm ∧ U.heap = h0) (fun _ _ _ _ _ => True) (fun _ U o U' => ∃ v L, o = .returned v ∧ Q_val Z x h0 n0 v U'.heap L ∧ FrameEnd U o U' L ({ frames := 0, cells := 0, slots := 0, locals := 0 } : Room).cells ({ frames := 0, cells := 0, slots := 0, locals := 0 } : Room).slots) := by
  refine MetFree.of_bodySF (plainFor_of_name pn0) hisR ?_
  intro p e s m args below meth c s₁ Bd hml0 hP hK
  obtain ⟨rfl, hZ, hh⟩ := hP
  have hx := Bd.exec
  have hby := Bd.bytes
  have hml : c.maxLocals = 1 := hml0
  have hown : s.vm.findClass "com/example/lexsign/lexsign/util/HexDigit" = some m.cls := findClass_of_methodNamed Bd.named
  have hnm := (name_of_methodNamed Bd.named Bd.method).1
  have hlk := Bd.notSynchronized
  have hrt := Bd.returns
  have X0 : Stand p l e ({ frames := 0, cells := 0, slots := 0, locals := 0 } : Room) s m #[(.int x)] below meth c s₁ [] 0 0 := Stand.of_body Bd
  have e0 : s₁.heap = h0 := by rw [← hh, Bd.state]; rfl
  have N0 := Fr.nil n0
  refine own_cast (P := own_End s (Q_val Z x h0 n0) ({ frames := 0, cells := 0, slots := 0, locals := 0 } : Room).cells ({ frames := 0, cells := 0, slots := 0, locals := 0 } : Room).slots) (ef_val m x) ?_
  refine g_iloadN X0 hx hby d_val_0 rfl (rfl : 0 + 1 = 1) ?_
  refine g_bipush X0 hx hby (48 : Int32) d_val_1 (by decide) (rfl : 1 + 2 = 3) ?_
  by_cases c1 : x < (48 : Int32)
  · refine g_icT X0 hx hby d_val_3 (tlt c1).1 (by decide) (pc' := 17) (by decide) ?_
    refine g_iloadN X0 hx hby d_val_17 rfl (rfl : 17 + 1 = 18) ?_
    refine g_bipush X0 hx hby (97 : Int32) d_val_18 (by decide) (rfl : 18 + 2 = 20) ?_
    by_cases c2 : x < (97 : Int32)
    · refine g_icT X0 hx hby d_val_20 (tlt c2).1 (by decide) (pc' := 37) (by decide) ?_
      refine g_iloadN X0 hx hby d_val_37 rfl (rfl : 37 + 1 = 38) ?_
      refine g_bipush X0 hx hby (65 : Int32) d_val_38 (by decide) (rfl : 38 + 2 = 40) ?_
      by_cases c3 : x < (65 : Int32)
      · refine g_icT X0 hx hby d_val_40 (tlt c3).1 (by decide) (pc' := 57) (by decide) ?_
        refine g_iconst X0 hx hby (-1 : Int32) d_val_57 (by decide) (rfl : 57 + 1 = 58) ?_
        refine own_retI X0 hx hby hlk hrt d_val_58 (by decide) (by decide) ?_
        show Q_val Z x h0 n0 _ s₁.heap _
        exact ⟨(congrArg (fun z => some (Value.int z)) (by rw [F_val, if_pos c1, if_pos c2, if_pos c3] <;> rfl)), N0, e0⟩
      · refine g_icF X0 hx hby d_val_40 (flt c3).1 (rfl : 40 + 3 = 43) ?_
        refine g_iloadN X0 hx hby d_val_43 rfl (rfl : 43 + 1 = 44) ?_
        refine g_bipush X0 hx hby (70 : Int32) d_val_44 (by decide) (rfl : 44 + 2 = 46) ?_
        by_cases c4 : (70 : Int32) < x
        · refine g_icT X0 hx hby d_val_46 (tlt c4).2.2.1 (by decide) (pc' := 57) (by decide) ?_
          refine g_iconst X0 hx hby (-1 : Int32) d_val_57 (by decide) (rfl : 57 + 1 = 58) ?_
          refine own_retI X0 hx hby hlk hrt d_val_58 (by decide) (by decide) ?_
          show Q_val Z x h0 n0 _ s₁.heap _
          exact ⟨(congrArg (fun z => some (Value.int z)) (by rw [F_val, if_pos c1, if_pos c2, if_neg c3, if_pos c4] <;> rfl)), N0, e0⟩
        · refine g_icF X0 hx hby d_val_46 (flt c4).2.2.1 (rfl : 46 + 3 = 49) ?_
          refine g_iloadN X0 hx hby d_val_49 rfl (rfl : 49 + 1 = 50) ?_
          refine g_bipush X0 hx hby (65 : Int32) d_val_50 (by decide) (rfl : 50 + 2 = 52) ?_
          refine g_isub X0 hx hby d_val_52 (rfl : 52 + 1 = 53) ?_
          refine g_bipush X0 hx hby (10 : Int32) d_val_53 (by decide) (rfl : 53 + 2 = 55) ?_
          refine g_iadd X0 hx hby d_val_55 (rfl : 55 + 1 = 56) ?_
          refine own_retI X0 hx hby hlk hrt d_val_56 (by decide) (by decide) ?_
          show Q_val Z x h0 n0 _ s₁.heap _
          exact ⟨(congrArg (fun z => some (Value.int z)) (by rw [F_val, if_pos c1, if_pos c2, if_neg c3, if_neg c4] <;> rfl)), N0, e0⟩
    · refine g_icF X0 hx hby d_val_20 (flt c2).1 (rfl : 20 + 3 = 23) ?_
      refine g_iloadN X0 hx hby d_val_23 rfl (rfl : 23 + 1 = 24) ?_
      refine g_bipush X0 hx hby (102 : Int32) d_val_24 (by decide) (rfl : 24 + 2 = 26) ?_
      by_cases c5 : (102 : Int32) < x
      · refine g_icT X0 hx hby d_val_26 (tlt c5).2.2.1 (by decide) (pc' := 37) (by decide) ?_
        refine g_iloadN X0 hx hby d_val_37 rfl (rfl : 37 + 1 = 38) ?_
        refine g_bipush X0 hx hby (65 : Int32) d_val_38 (by decide) (rfl : 38 + 2 = 40) ?_
        by_cases c6 : x < (65 : Int32)
        · refine g_icT X0 hx hby d_val_40 (tlt c6).1 (by decide) (pc' := 57) (by decide) ?_
          refine g_iconst X0 hx hby (-1 : Int32) d_val_57 (by decide) (rfl : 57 + 1 = 58) ?_
          refine own_retI X0 hx hby hlk hrt d_val_58 (by decide) (by decide) ?_
          show Q_val Z x h0 n0 _ s₁.heap _
          exact ⟨(congrArg (fun z => some (Value.int z)) (by rw [F_val, if_pos c1, if_neg c2, if_pos c5, if_pos c6] <;> rfl)), N0, e0⟩
        · refine g_icF X0 hx hby d_val_40 (flt c6).1 (rfl : 40 + 3 = 43) ?_
          refine g_iloadN X0 hx hby d_val_43 rfl (rfl : 43 + 1 = 44) ?_
          refine g_bipush X0 hx hby (70 : Int32) d_val_44 (by decide) (rfl : 44 + 2 = 46) ?_
          by_cases c7 : (70 : Int32) < x
          · refine g_icT X0 hx hby d_val_46 (tlt c7).2.2.1 (by decide) (pc' := 57) (by decide) ?_
            refine g_iconst X0 hx hby (-1 : Int32) d_val_57 (by decide) (rfl : 57 + 1 = 58) ?_
            refine own_retI X0 hx hby hlk hrt d_val_58 (by decide) (by decide) ?_
            show Q_val Z x h0 n0 _ s₁.heap _
            exact ⟨(congrArg (fun z => some (Value.int z)) (by rw [F_val, if_pos c1, if_neg c2, if_pos c5, if_neg c6, if_pos c7] <;> rfl)), N0, e0⟩
          · refine g_icF X0 hx hby d_val_46 (flt c7).2.2.1 (rfl : 46 + 3 = 49) ?_
            refine g_iloadN X0 hx hby d_val_49 rfl (rfl : 49 + 1 = 50) ?_
            refine g_bipush X0 hx hby (65 : Int32) d_val_50 (by decide) (rfl : 50 + 2 = 52) ?_
            refine g_isub X0 hx hby d_val_52 (rfl : 52 + 1 = 53) ?_
            refine g_bipush X0 hx hby (10 : Int32) d_val_53 (by decide) (rfl : 53 + 2 = 55) ?_
            refine g_iadd X0 hx hby d_val_55 (rfl : 55 + 1 = 56) ?_
            refine own_retI X0 hx hby hlk hrt d_val_56 (by decide) (by decide) ?_
            show Q_val Z x h0 n0 _ s₁.heap _
            exact ⟨(congrArg (fun z => some (Value.int z)) (by rw [F_val, if_pos c1, if_neg c2, if_pos c5, if_neg c6, if_neg c7] <;> rfl)), N0, e0⟩
      · refine g_icF X0 hx hby d_val_26 (flt c5).2.2.1 (rfl : 26 + 3 = 29) ?_
        refine g_iloadN X0 hx hby d_val_29 rfl (rfl : 29 + 1 = 30) ?_
        refine g_bipush X0 hx hby (97 : Int32) d_val_30 (by decide) (rfl : 30 + 2 = 32) ?_
        refine g_isub X0 hx hby d_val_32 (rfl : 32 + 1 = 33) ?_
        refine g_bipush X0 hx hby (10 : Int32) d_val_33 (by decide) (rfl : 33 + 2 = 35) ?_
        refine g_iadd X0 hx hby d_val_35 (rfl : 35 + 1 = 36) ?_
        refine own_retI X0 hx hby hlk hrt d_val_36 (by decide) (by decide) ?_
        show Q_val Z x h0 n0 _ s₁.heap _
        exact ⟨(congrArg (fun z => some (Value.int z)) (by rw [F_val, if_pos c1, if_neg c2, if_neg c5] <;> rfl)), N0, e0⟩
  · refine g_icF X0 hx hby d_val_3 (flt c1).1 (rfl : 3 + 3 = 6) ?_
    refine g_iloadN X0 hx hby d_val_6 rfl (rfl : 6 + 1 = 7) ?_
    refine g_bipush X0 hx hby (57 : Int32) d_val_7 (by decide) (rfl : 7 + 2 = 9) ?_
    by_cases c8 : (57 : Int32) < x
    · refine g_icT X0 hx hby d_val_9 (tlt c8).2.2.1 (by decide) (pc' := 17) (by decide) ?_
      refine g_iloadN X0 hx hby d_val_17 rfl (rfl : 17 + 1 = 18) ?_
      refine g_bipush X0 hx hby (97 : Int32) d_val_18 (by decide) (rfl : 18 + 2 = 20) ?_
      by_cases c9 : x < (97 : Int32)
      · refine g_icT X0 hx hby d_val_20 (tlt c9).1 (by decide) (pc' := 37) (by decide) ?_
        refine g_iloadN X0 hx hby d_val_37 rfl (rfl : 37 + 1 = 38) ?_
        refine g_bipush X0 hx hby (65 : Int32) d_val_38 (by decide) (rfl : 38 + 2 = 40) ?_
        by_cases c10 : x < (65 : Int32)
        · refine g_icT X0 hx hby d_val_40 (tlt c10).1 (by decide) (pc' := 57) (by decide) ?_
          refine g_iconst X0 hx hby (-1 : Int32) d_val_57 (by decide) (rfl : 57 + 1 = 58) ?_
          refine own_retI X0 hx hby hlk hrt d_val_58 (by decide) (by decide) ?_
          show Q_val Z x h0 n0 _ s₁.heap _
          exact ⟨(congrArg (fun z => some (Value.int z)) (by rw [F_val, if_neg c1, if_pos c8, if_pos c9, if_pos c10] <;> rfl)), N0, e0⟩
        · refine g_icF X0 hx hby d_val_40 (flt c10).1 (rfl : 40 + 3 = 43) ?_
          refine g_iloadN X0 hx hby d_val_43 rfl (rfl : 43 + 1 = 44) ?_
          refine g_bipush X0 hx hby (70 : Int32) d_val_44 (by decide) (rfl : 44 + 2 = 46) ?_
          by_cases c11 : (70 : Int32) < x
          · refine g_icT X0 hx hby d_val_46 (tlt c11).2.2.1 (by decide) (pc' := 57) (by decide) ?_
            refine g_iconst X0 hx hby (-1 : Int32) d_val_57 (by decide) (rfl : 57 + 1 = 58) ?_
            refine own_retI X0 hx hby hlk hrt d_val_58 (by decide) (by decide) ?_
            show Q_val Z x h0 n0 _ s₁.heap _
            exact ⟨(congrArg (fun z => some (Value.int z)) (by rw [F_val, if_neg c1, if_pos c8, if_pos c9, if_neg c10, if_pos c11] <;> rfl)), N0, e0⟩
          · refine g_icF X0 hx hby d_val_46 (flt c11).2.2.1 (rfl : 46 + 3 = 49) ?_
            refine g_iloadN X0 hx hby d_val_49 rfl (rfl : 49 + 1 = 50) ?_
            refine g_bipush X0 hx hby (65 : Int32) d_val_50 (by decide) (rfl : 50 + 2 = 52) ?_
            refine g_isub X0 hx hby d_val_52 (rfl : 52 + 1 = 53) ?_
            refine g_bipush X0 hx hby (10 : Int32) d_val_53 (by decide) (rfl : 53 + 2 = 55) ?_
            refine g_iadd X0 hx hby d_val_55 (rfl : 55 + 1 = 56) ?_
            refine own_retI X0 hx hby hlk hrt d_val_56 (by decide) (by decide) ?_
            show Q_val Z x h0 n0 _ s₁.heap _
            exact ⟨(congrArg (fun z => some (Value.int z)) (by rw [F_val, if_neg c1, if_pos c8, if_pos c9, if_neg c10, if_neg c11] <;> rfl)), N0, e0⟩
      · refine g_icF X0 hx hby d_val_20 (flt c9).1 (rfl : 20 + 3 = 23) ?_
        refine g_iloadN X0 hx hby d_val_23 rfl (rfl : 23 + 1 = 24) ?_
        refine g_bipush X0 hx hby (102 : Int32) d_val_24 (by decide) (rfl : 24 + 2 = 26) ?_
        by_cases c12 : (102 : Int32) < x
        · refine g_icT X0 hx hby d_val_26 (tlt c12).2.2.1 (by decide) (pc' := 37) (by decide) ?_
          refine g_iloadN X0 hx hby d_val_37 rfl (rfl : 37 + 1 = 38) ?_
          refine g_bipush X0 hx hby (65 : Int32) d_val_38 (by decide) (rfl : 38 + 2 = 40) ?_
          by_cases c13 : x < (65 : Int32)
          · refine g_icT X0 hx hby d_val_40 (tlt c13).1 (by decide) (pc' := 57) (by decide) ?_
            refine g_iconst X0 hx hby (-1 : Int32) d_val_57 (by decide) (rfl : 57 + 1 = 58) ?_
            refine own_retI X0 hx hby hlk hrt d_val_58 (by decide) (by decide) ?_
            show Q_val Z x h0 n0 _ s₁.heap _
            exact ⟨(congrArg (fun z => some (Value.int z)) (by rw [F_val, if_neg c1, if_pos c8, if_neg c9, if_pos c12, if_pos c13] <;> rfl)), N0, e0⟩
          · refine g_icF X0 hx hby d_val_40 (flt c13).1 (rfl : 40 + 3 = 43) ?_
            refine g_iloadN X0 hx hby d_val_43 rfl (rfl : 43 + 1 = 44) ?_
            refine g_bipush X0 hx hby (70 : Int32) d_val_44 (by decide) (rfl : 44 + 2 = 46) ?_
            by_cases c14 : (70 : Int32) < x
            · refine g_icT X0 hx hby d_val_46 (tlt c14).2.2.1 (by decide) (pc' := 57) (by decide) ?_
              refine g_iconst X0 hx hby (-1 : Int32) d_val_57 (by decide) (rfl : 57 + 1 = 58) ?_
              refine own_retI X0 hx hby hlk hrt d_val_58 (by decide) (by decide) ?_
              show Q_val Z x h0 n0 _ s₁.heap _
              exact ⟨(congrArg (fun z => some (Value.int z)) (by rw [F_val, if_neg c1, if_pos c8, if_neg c9, if_pos c12, if_neg c13, if_pos c14] <;> rfl)), N0, e0⟩
            · refine g_icF X0 hx hby d_val_46 (flt c14).2.2.1 (rfl : 46 + 3 = 49) ?_
              refine g_iloadN X0 hx hby d_val_49 rfl (rfl : 49 + 1 = 50) ?_
              refine g_bipush X0 hx hby (65 : Int32) d_val_50 (by decide) (rfl : 50 + 2 = 52) ?_
              refine g_isub X0 hx hby d_val_52 (rfl : 52 + 1 = 53) ?_
              refine g_bipush X0 hx hby (10 : Int32) d_val_53 (by decide) (rfl : 53 + 2 = 55) ?_
              refine g_iadd X0 hx hby d_val_55 (rfl : 55 + 1 = 56) ?_
              refine own_retI X0 hx hby hlk hrt d_val_56 (by decide) (by decide) ?_
              show Q_val Z x h0 n0 _ s₁.heap _
              exact ⟨(congrArg (fun z => some (Value.int z)) (by rw [F_val, if_neg c1, if_pos c8, if_neg c9, if_pos c12, if_neg c13, if_neg c14] <;> rfl)), N0, e0⟩
        · refine g_icF X0 hx hby d_val_26 (flt c12).2.2.1 (rfl : 26 + 3 = 29) ?_
          refine g_iloadN X0 hx hby d_val_29 rfl (rfl : 29 + 1 = 30) ?_
          refine g_bipush X0 hx hby (97 : Int32) d_val_30 (by decide) (rfl : 30 + 2 = 32) ?_
          refine g_isub X0 hx hby d_val_32 (rfl : 32 + 1 = 33) ?_
          refine g_bipush X0 hx hby (10 : Int32) d_val_33 (by decide) (rfl : 33 + 2 = 35) ?_
          refine g_iadd X0 hx hby d_val_35 (rfl : 35 + 1 = 36) ?_
          refine own_retI X0 hx hby hlk hrt d_val_36 (by decide) (by decide) ?_
          show Q_val Z x h0 n0 _ s₁.heap _
          exact ⟨(congrArg (fun z => some (Value.int z)) (by rw [F_val, if_neg c1, if_pos c8, if_neg c9, if_neg c12] <;> rfl)), N0, e0⟩
    · refine g_icF X0 hx hby d_val_9 (flt c8).2.2.1 (rfl : 9 + 3 = 12) ?_
      refine g_iloadN X0 hx hby d_val_12 rfl (rfl : 12 + 1 = 13) ?_
      refine g_bipush X0 hx hby (48 : Int32) d_val_13 (by decide) (rfl : 13 + 2 = 15) ?_
      refine g_isub X0 hx hby d_val_15 (rfl : 15 + 1 = 16) ?_
      refine own_retI X0 hx hby hlk hrt d_val_16 (by decide) (by decide) ?_
      show Q_val Z x h0 n0 _ s₁.heap _
      exact ⟨(congrArg (fun z => some (Value.int z)) (by rw [F_val, if_neg c1, if_neg c8] <;> rfl)), N0, e0⟩
theorem d_isl_0 : decode jdk_42_method_154_code 0 = .ok (.getstatic 38, 3) := by decide +kernel
theorem d_isl_3 : decode jdk_42_method_154_code 3 = .ok (.ifCond .eq 14, 3) := by decide +kernel
theorem d_isl_6 : decode jdk_42_method_154_code 6 = .ok (.aload_n 0, 1) := by decide +kernel
theorem d_isl_7 : decode jdk_42_method_154_code 7 = .ok (.getfield 15, 3) := by decide +kernel
theorem d_isl_10 : decode jdk_42_method_154_code 10 = .ok (.ifCond .ne 7, 3) := by decide +kernel
theorem d_isl_13 : decode jdk_42_method_154_code 13 = .ok (.iconst 1, 1) := by decide +kernel
theorem d_isl_14 : decode jdk_42_method_154_code 14 = .ok (.goto 4, 3) := by decide +kernel
theorem d_isl_18 : decode jdk_42_method_154_code 18 = .ok (.ireturn, 1) := by decide +kernel
theorem pn1 : plainName "java/lang/String" = true := by first | (simp [plainName, overriddenIn]; done) | decide +kernel
theorem ef_isl (m : MethodId) (a0 : Addr) : entryFrame m #[(.ref a0)] 1 = mkF m 0 #[.val (.ref a0)] [] := by first | (simp [entryFrame, mkF, argsToLocals, Value.category]; done) | rfl
def Q_isl (Z : State) (a0 : Addr) (g1 : Int32) (h0 : Heap) (n0 : Nat) (v : Option Value) (h : Heap) (L : List Loc) : Prop := v = some (.int (1 : Int32)) ∧ Fr n0 L ∧ h = h0
set_option maxRecDepth 65536 in
set_option maxHeartbeats 40000000 in
theorem rm_isl (l : Launch) (Z : State) (aT : Array Value) (hw : ∀ d ∈ tables_1, d.before aT Z = true) (ws : List Jvm.Cond) (a0 : Addr) (g1 : Int32) (h0 : Heap) (n0 : Nat) (Z0 : n0 ≤ h0.size) (hp0 : Sta Z h0 "java/lang/String" "COMPACT_STRINGS" "Z" (.int g1)) (hp1 : Fld Z h0 a0 "java/lang/String" "coder" "B" (.int (0 : Int32))) (hg1 : ¬ (g1 = (0 : Int32))) :
    MetFree l (⟨"java/lang/String", "isLatin1", "()Z"⟩ : MethodName) (head1 (Jvm.Cond.code (⟨"java/lang/String", "isLatin1", "()Z"⟩ : MethodName) jdk_42_method_154_code 1 (some .boolean) :: ws) ({ frames := 0, cells := 0, slots := 0, locals := 0 } : Room)) (fun a U => a = #[(.ref a0)] ∧ Z.Warmed39 U.vm ∧ U.heap = h0) (fun _ _ _ _ _ => True) (fun _ U o U' => ∃ v L, o = .returned v ∧ Q_isl Z a0 g1 h0 n0 v U'.heap L ∧ FrameEnd U o U' L ({ frames := 0, cells := 0, slots := 0, locals := 0 } : Room).cells ({ frames := 0, cells := 0, slots := 0, locals := 0 } : Room).slots) := by
  refine MetFree.of_bodySF (plainFor_of_name pn1) hisR ?_
  intro p e s m args below meth c s₁ Bd hml0 hP hK
  obtain ⟨rfl, hZ, hh⟩ := hP
  have hx := Bd.exec
  have hby := Bd.bytes
  have hml : c.maxLocals = 1 := hml0
  have hown : s.vm.findClass "java/lang/String" = some m.cls := findClass_of_methodNamed Bd.named
  have hnm := (name_of_methodNamed Bd.named Bd.method).1
  have hlk := Bd.notSynchronized
  have hrt := Bd.returns
  have X0 : Stand p l e ({ frames := 0, cells := 0, slots := 0, locals := 0 } : Room) s m #[(.ref a0)] below meth c s₁ [] 0 0 := Stand.of_body Bd
  have e0 : s₁.heap = h0 := by rw [← hh, Bd.state]; rfl
  have N0 := Fr.nil n0
  refine own_cast (P := own_End s (Q_isl Z a0 g1 h0 n0) ({ frames := 0, cells := 0, slots := 0, locals := 0 } : Room).cells ({ frames := 0, cells := 0, slots := 0, locals := 0 } : Room).slots) (ef_isl m a0) ?_
  obtain ⟨T15, X15, e15, st15⟩ := getS2 X0 hx hZ hown (host := "") (Or.inl (hw _ (List.mem_of_getElem? (i := 24) rfl))) Via.refl e0 hp0 (g := (mkF m 0 #[.val (.ref a0)] [])) rfl (hb hby d_isl_0)
  refine own_go st15 ?_
  show own_Got p e below _ T15 (mkF m 3 #[.val (.ref a0)] [(.int g1)])
  refine g_ifF X15 hx hby d_isl_3 ((if0 _ _).trans (feq hg1).1) (rfl : 3 + 3 = 6) ?_
  refine g_aloadN X15 hx hby d_isl_6 rfl rfl (rfl : 6 + 1 = 7) ?_
  obtain ⟨T16, X16, e16, st16⟩ := getF X15 hx hZ hown (host := "") (Or.inl (hw _ (List.mem_of_getElem? (i := 25) rfl))) Via.refl e15 hp1 (g := (mkF m 7 #[.val (.ref a0)] [(.ref a0)])) rfl rfl (hb hby d_isl_7)
  refine own_go st16 ?_
  show own_Got p e below _ T16 (mkF m 10 #[.val (.ref a0)] [(.int (0 : Int32))])
  refine g_ifF X16 hx hby d_isl_10 ((if0 _ _).trans (teq (by decide : (0 : Int32) = (0 : Int32))).2) (rfl : 10 + 3 = 13) ?_
  refine g_iconst X16 hx hby (1 : Int32) d_isl_13 (by decide) (rfl : 13 + 1 = 14) ?_
  refine g_goto X16 hx hby d_isl_14 (by decide) (pc' := 18) (by decide) ?_
  refine own_retN X16 hx hby hlk (t := .boolean) hrt (by simp) d_isl_18 (by decide) (by decide) ?_
  show Q_isl Z a0 g1 h0 n0 _ T16.heap _
  exact ⟨rfl, N0, e16⟩
theorem d_pck_0 : decode jdk_41_method_11_code 0 = .ok (.iload_n 0, 1) := by decide +kernel
theorem d_pck_1 : decode jdk_41_method_11_code 1 = .ok (.ifCond .lt 8, 3) := by decide +kernel
theorem d_pck_4 : decode jdk_41_method_11_code 4 = .ok (.iload_n 0, 1) := by decide +kernel
theorem d_pck_5 : decode jdk_41_method_11_code 5 = .ok (.iload_n 1, 1) := by decide +kernel
theorem d_pck_6 : decode jdk_41_method_11_code 6 = .ok (.if_icmp .lt 10, 3) := by decide +kernel
theorem d_pck_16 : decode jdk_41_method_11_code 16 = .ok (.iload_n 0, 1) := by decide +kernel
theorem d_pck_17 : decode jdk_41_method_11_code 17 = .ok (.ireturn, 1) := by decide +kernel
theorem pn2 : plainName "jdk/internal/util/Preconditions" = true := by first | (simp [plainName, overriddenIn]; done) | decide +kernel
theorem ef_pck (m : MethodId) (i : Int32) (n : Int32) (w1 : Value) (qw1 : w1.isRef = true) : entryFrame m #[(.int i), (.int n), w1] 3 = mkF m 0 #[.val (.int i), .val (.int n), .val w1] [] := by
  rcases ref_cases qw1 with h | ⟨_, h⟩ <;> subst h
  all_goals rfl
def Q_pck (Z : State) (i : Int32) (n : Int32) (w1 : Value) (h0 : Heap) (n0 : Nat) (v : Option Value) (h : Heap) (L : List Loc) : Prop := v = some (.int i) ∧ Fr n0 L ∧ h = h0
set_option maxRecDepth 65536 in
set_option maxHeartbeats 40000000 in
theorem rm_pck (l : Launch) (Z : State) (aT : Array Value) (hw : ∀ d ∈ tables_1, d.before aT Z = true) (ws : List Jvm.Cond) (i : Int32) (n : Int32) (w1 : Value) (h0 : Heap) (n0 : Nat) (Z0 : n0 ≤ h0.size) (hi0 : ¬ (i < (0 : Int32))) (hi1 : i < n) (hw1 : w1.isRef = true) :
    MetFree l (⟨"jdk/internal/util/Preconditions", "checkIndex", "(IILjava/util/function/BiFunction;)I"⟩ : MethodName) (head1 (Jvm.Cond.code (⟨"jdk/internal/util/Preconditions", "checkIndex", "(IILjava/util/function/BiFunction;)I"⟩ : MethodName) jdk_41_method_11_code 3 (some .int) :: ws) ({ frames := 0, cells := 0, slots := 0, locals := 0 } : Room)) (fun a U => a = #[(.int i), (.int n), w1] ∧ Z.Warmed39 U.vm ∧ U.heap = h0) (fun _ _ _ _ _ => True) (fun _ U o U' => ∃ v L, o = .returned v ∧ Q_pck Z i n w1 h0 n0 v U'.heap L ∧ FrameEnd U o U' L ({ frames := 0, cells := 0, slots := 0, locals := 0 } : Room).cells ({ frames := 0, cells := 0, slots := 0, locals := 0 } : Room).slots) := by
  refine MetFree.of_bodySF (plainFor_of_name pn2) hisR ?_
  intro p e s m args below meth c s₁ Bd hml0 hP hK
  obtain ⟨rfl, hZ, hh⟩ := hP
  have hx := Bd.exec
  have hby := Bd.bytes
  have hml : c.maxLocals = 3 := hml0
  have hown : s.vm.findClass "jdk/internal/util/Preconditions" = some m.cls := findClass_of_methodNamed Bd.named
  have hnm := (name_of_methodNamed Bd.named Bd.method).1
  have hlk := Bd.notSynchronized
  have hrt := Bd.returns
  have X0 : Stand p l e ({ frames := 0, cells := 0, slots := 0, locals := 0 } : Room) s m #[(.int i), (.int n), w1] below meth c s₁ [] 0 0 := Stand.of_body Bd
  have e0 : s₁.heap = h0 := by rw [← hh, Bd.state]; rfl
  have N0 := Fr.nil n0
  refine own_cast (P := own_End s (Q_pck Z i n w1 h0 n0) ({ frames := 0, cells := 0, slots := 0, locals := 0 } : Room).cells ({ frames := 0, cells := 0, slots := 0, locals := 0 } : Room).slots) (ef_pck m i n w1 hw1) ?_
  refine g_iloadN X0 hx hby d_pck_0 rfl (rfl : 0 + 1 = 1) ?_
  refine g_ifF X0 hx hby d_pck_1 ((if0 _ _).trans (flt hi0).1) (rfl : 1 + 3 = 4) ?_
  refine g_iloadN X0 hx hby d_pck_4 rfl (rfl : 4 + 1 = 5) ?_
  refine g_iloadN X0 hx hby d_pck_5 rfl (rfl : 5 + 1 = 6) ?_
  refine g_icT X0 hx hby d_pck_6 (tlt hi1).1 (by decide) (pc' := 16) (by decide) ?_
  refine g_iloadN X0 hx hby d_pck_16 rfl (rfl : 16 + 1 = 17) ?_
  refine own_retI X0 hx hby hlk hrt d_pck_17 (by decide) (by decide) ?_
  show Q_pck Z i n w1 h0 n0 _ s₁.heap _
  exact ⟨rfl, N0, e0⟩
theorem d_sck_0 : decode jdk_42_method_155_code 0 = .ok (.iload_n 0, 1) := by decide +kernel
theorem d_sck_1 : decode jdk_42_method_155_code 1 = .ok (.iload_n 1, 1) := by decide +kernel
theorem d_sck_2 : decode jdk_42_method_155_code 2 = .ok (.getstatic 1053, 3) := by decide +kernel
theorem d_sck_5 : decode jdk_42_method_155_code 5 = .ok (.invokestatic 1059, 3) := by decide +kernel
theorem d_sck_8 : decode jdk_42_method_155_code 8 = .ok (.pop, 1) := by decide +kernel
theorem d_sck_9 : decode jdk_42_method_155_code 9 = .ok (.return_, 1) := by decide +kernel
theorem pd0 : parseMethodDescriptor "(IILjava/util/function/BiFunction;)I" = some ⟨[.int, .int, (.object "java/util/function/BiFunction")], some .int⟩ := by decide +kernel
theorem ef_sck (m : MethodId) (i : Int32) (n : Int32) : entryFrame m #[(.int i), (.int n)] 2 = mkF m 0 #[.val (.int i), .val (.int n)] [] := by first | (simp [entryFrame, mkF, argsToLocals, Value.category]; done) | rfl
def Q_sck (Z : State) (i : Int32) (n : Int32) (w1 : Value) (h0 : Heap) (n0 : Nat) (v : Option Value) (h : Heap) (L : List Loc) : Prop := v = none ∧ Fr n0 L ∧ h = h0
set_option maxRecDepth 65536 in
set_option maxHeartbeats 40000000 in
theorem rm_sck (l : Launch) (Z : State) (aT : Array Value) (hw : ∀ d ∈ tables_1, d.before aT Z = true) (ws : List Jvm.Cond) (i : Int32) (n : Int32) (w1 : Value) (h0 : Heap) (n0 : Nat) (Z0 : n0 ≤ h0.size) (hp0 : Sta Z h0 "jdk/internal/util/Preconditions" "SIOOBE_FORMATTER" "Ljava/util/function/BiFunction;" w1) (hi0 : ¬ (i < (0 : Int32))) (hi1 : i < n) (hw1 : w1.isRef = true) :
    MetFree l (⟨"java/lang/String", "checkIndex", "(II)V"⟩ : MethodName) (head1 (Jvm.Cond.code (⟨"java/lang/String", "checkIndex", "(II)V"⟩ : MethodName) jdk_42_method_155_code 2 none :: ws) ({ frames := 1, cells := 0, slots := 0, locals := 14 } : Room)) (fun a U => a = #[(.int i), (.int n)] ∧ Z.Warmed39 U.vm ∧ U.heap = h0) (fun _ _ _ _ _ => True) (fun _ U o U' => ∃ v L, o = .returned v ∧ Q_sck Z i n w1 h0 n0 v U'.heap L ∧ FrameEnd U o U' L ({ frames := 1, cells := 0, slots := 0, locals := 14 } : Room).cells ({ frames := 1, cells := 0, slots := 0, locals := 14 } : Room).slots) := by
  refine MetFree.of_bodySF (plainFor_of_name pn1) hisR ?_
  intro p e s m args below meth c s₁ Bd hml0 hP hK
  obtain ⟨rfl, hZ, hh⟩ := hP
  have hx := Bd.exec
  have hby := Bd.bytes
  have hml : c.maxLocals = 2 := hml0
  have hown : s.vm.findClass "java/lang/String" = some m.cls := findClass_of_methodNamed Bd.named
  have hnm := (name_of_methodNamed Bd.named Bd.method).1
  have hlk := Bd.notSynchronized
  have hrt := Bd.returns
  have X0 : Stand p l e ({ frames := 1, cells := 0, slots := 0, locals := 14 } : Room) s m #[(.int i), (.int n)] below meth c s₁ [] 0 0 := Stand.of_body Bd
  have e0 : s₁.heap = h0 := by rw [← hh, Bd.state]; rfl
  have N0 := Fr.nil n0
  refine own_cast (P := own_End s (Q_sck Z i n w1 h0 n0) ({ frames := 1, cells := 0, slots := 0, locals := 14 } : Room).cells ({ frames := 1, cells := 0, slots := 0, locals := 14 } : Room).slots) (ef_sck m i n) ?_
  refine g_iloadN X0 hx hby d_sck_0 rfl (rfl : 0 + 1 = 1) ?_
  refine g_iloadN X0 hx hby d_sck_1 rfl (rfl : 1 + 1 = 2) ?_
  obtain ⟨T17, X17, e17, st17⟩ := getS2 X0 hx hZ hown (host := "") (Or.inl (hw _ (List.mem_of_getElem? (i := 34) rfl))) Via.refl e0 hp0 (g := (mkF m 2 #[.val (.int i), .val (.int n)] [(.int n), (.int i)])) rfl (hb hby d_sck_2)
  refine own_go st17 ?_
  show own_Got p e below _ T17 (mkF m 5 #[.val (.int i), .val (.int n)] [w1, (.int n), (.int i)])
  obtain ⟨_, _, ⟨T18, L18, k18, n18⟩, -, X18, ⟨Lc18, hQ18, l18, y18, z18⟩, st18⟩ := Jvm.LawKit.callS X17 hx (y := (⟨"jdk/internal/util/Preconditions", "checkIndex", "(IILjava/util/function/BiFunction;)I"⟩ : MethodName)) hown (mvT hZ (hw _ (List.mem_of_getElem? (i := 36) rfl))) (mvT hZ (hw _ (List.mem_of_getElem? (i := 37) rfl))) (mvT hZ (hw _ (List.mem_of_getElem? (i := 35) rfl))) (mvT hZ (hw _ (List.mem_of_getElem? (i := 38) rfl))) (by decide) (backOf (W := 0) (rm_pck l Z aT hw [] i n w1 h0 n0 Z0 hi0 hi1 hw1) hZ (hw _ (List.mem_of_getElem? (i := 38) rfl)) (hw _ (List.mem_of_getElem? (i := 35) rfl)) (by decide) (by decide)) (g := (mkF m 5 #[.val (.int i), .val (.int n)] [w1, (.int n), (.int i)])) rfl (by rw [hml]; rfl) (argsL := [(.int i), (.int n), w1]) (rest := []) (lenOf pd0 rfl) rfl (by show 2 * 0 + _ ≤ _; exact Nat.le_of_eq rfl) (hb hby d_sck_5) (fun _ _ => ⟨rfl, e17, (by decide : 0 + 0 ≤ _), (by decide : 0 + 0 ≤ _)⟩)
  dsimp only [Pt.U, Pt.locs, Pt.cells, Pt.slots] at X18 l18 y18 z18 st18 hQ18
  subst l18 y18 z18
  obtain ⟨rfl, N18q, eq18⟩ := hQ18
  have N18 := Fr.app N0 N18q
  refine own_go st18 ?_
  show own_Got p e below _ T18 (mkF m 8 #[.val (.int i), .val (.int n)] [(.int i)])
  refine g_pop X18 hx hby d_sck_8 rfl (rfl : 8 + 1 = 9) ?_
  refine own_retV X18 hx hby hlk hrt d_sck_9 (by decide) (by decide) ?_
  show Q_sck Z i n w1 h0 n0 _ T18.heap _
  exact ⟨rfl, N18, eq18⟩
theorem d_slc_0 : decode jdk_43_method_2_code 0 = .ok (.iload_n 1, 1) := by decide +kernel
theorem d_slc_1 : decode jdk_43_method_2_code 1 = .ok (.aload_n 0, 1) := by decide +kernel
theorem d_slc_2 : decode jdk_43_method_2_code 2 = .ok (.arraylength, 1) := by decide +kernel
theorem d_slc_3 : decode jdk_43_method_2_code 3 = .ok (.invokestatic 9, 3) := by decide +kernel
theorem d_slc_6 : decode jdk_43_method_2_code 6 = .ok (.aload_n 0, 1) := by decide +kernel
theorem d_slc_7 : decode jdk_43_method_2_code 7 = .ok (.iload_n 1, 1) := by decide +kernel
theorem d_slc_8 : decode jdk_43_method_2_code 8 = .ok (.baload, 1) := by decide +kernel
theorem d_slc_9 : decode jdk_43_method_2_code 9 = .ok (.sipush 255, 3) := by decide +kernel
theorem d_slc_12 : decode jdk_43_method_2_code 12 = .ok (.iand, 1) := by decide +kernel
theorem d_slc_13 : decode jdk_43_method_2_code 13 = .ok (.i2c, 1) := by decide +kernel
theorem d_slc_14 : decode jdk_43_method_2_code 14 = .ok (.ireturn, 1) := by decide +kernel
theorem pn3 : plainName "java/lang/StringLatin1" = true := by first | (simp [plainName, overriddenIn]; done) | decide +kernel
theorem pd1 : parseMethodDescriptor "(II)V" = some ⟨[.int, .int], none⟩ := by decide +kernel
theorem ef_slc (m : MethodId) (a0 : Addr) (i : Int32) : entryFrame m #[(.ref a0), (.int i)] 2 = mkF m 0 #[.val (.ref a0), .val (.int i)] [] := by first | (simp [entryFrame, mkF, argsToLocals, Value.category]; done) | rfl
def F_slc (bv : Int32) : Int32 := (nar .char ((bv &&& (255 : Int32)).toUInt32.toUInt16.toUInt32.toInt32))
def Q_slc (Z : State) (a0 : Addr) (i : Int32) (n : Int32) (bv : Int32) (kb : ClassId) (vs : List Value) (w1 : Value) (h0 : Heap) (n0 : Nat) (v : Option Value) (h : Heap) (L : List Loc) : Prop := v = some (.int (F_slc bv)) ∧ Fr n0 L ∧ h = h0
set_option maxRecDepth 65536 in
set_option maxHeartbeats 40000000 in
theorem rm_slc (l : Launch) (Z : State) (aT : Array Value) (hw : ∀ d ∈ tables_1, d.before aT Z = true) (ws : List Jvm.Cond) (a0 : Addr) (i : Int32) (n : Int32) (bv : Int32) (kb : ClassId) (vs : List Value) (w1 : Value) (h0 : Heap) (n0 : Nat) (Z0 : n0 ≤ h0.size) (hp0 : Arv Z h0 a0 kb .byte n vs (.int (0 : Int32))) (hp1 : vs.getD (i).toNatClampNeg (.int (0 : Int32)) = (.int bv)) (hp2 : Sta Z h0 "jdk/internal/util/Preconditions" "SIOOBE_FORMATTER" "Ljava/util/function/BiFunction;" w1) (hi0 : ¬ (i < (0 : Int32))) (hi1 : i < n) (hw1 : w1.isRef = true) :
    MetFree l (⟨"java/lang/StringLatin1", "charAt", "([BI)C"⟩ : MethodName) (head1 (Jvm.Cond.code (⟨"java/lang/StringLatin1", "charAt", "([BI)C"⟩ : MethodName) jdk_43_method_2_code 2 (some .char) :: ws) ({ frames := 2, cells := 0, slots := 0, locals := 27 } : Room)) (fun a U => a = #[(.ref a0), (.int i)] ∧ Z.Warmed39 U.vm ∧ U.heap = h0) (fun _ _ _ _ _ => True) (fun _ U o U' => ∃ v L, o = .returned v ∧ Q_slc Z a0 i n bv kb vs w1 h0 n0 v U'.heap L ∧ FrameEnd U o U' L ({ frames := 2, cells := 0, slots := 0, locals := 27 } : Room).cells ({ frames := 2, cells := 0, slots := 0, locals := 27 } : Room).slots) := by
  refine MetFree.of_bodySF (plainFor_of_name pn3) hisR ?_
  intro p e s m args below meth c s₁ Bd hml0 hP hK
  obtain ⟨rfl, hZ, hh⟩ := hP
  have hx := Bd.exec
  have hby := Bd.bytes
  have hml : c.maxLocals = 2 := hml0
  have hown : s.vm.findClass "java/lang/StringLatin1" = some m.cls := findClass_of_methodNamed Bd.named
  have hnm := (name_of_methodNamed Bd.named Bd.method).1
  have hlk := Bd.notSynchronized
  have hrt := Bd.returns
  have X0 : Stand p l e ({ frames := 2, cells := 0, slots := 0, locals := 27 } : Room) s m #[(.ref a0), (.int i)] below meth c s₁ [] 0 0 := Stand.of_body Bd
  have e0 : s₁.heap = h0 := by rw [← hh, Bd.state]; rfl
  have N0 := Fr.nil n0
  refine own_cast (P := own_End s (Q_slc Z a0 i n bv kb vs w1 h0 n0) ({ frames := 2, cells := 0, slots := 0, locals := 27 } : Room).cells ({ frames := 2, cells := 0, slots := 0, locals := 27 } : Room).slots) (ef_slc m a0 i) ?_
  refine g_iloadN X0 hx hby d_slc_0 rfl (rfl : 0 + 1 = 1) ?_
  refine g_aloadN X0 hx hby d_slc_1 rfl rfl (rfl : 1 + 1 = 2) ?_
  refine g_alen X0 hx hby hZ e0 hp0 d_slc_2 (rfl : 2 + 1 = 3) ?_
  obtain ⟨_, _, ⟨T19, L19, k19, n19⟩, -, X19, ⟨Lc19, hQ19, l19, y19, z19⟩, st19⟩ := Jvm.LawKit.callS X0 hx (y := (⟨"java/lang/String", "checkIndex", "(II)V"⟩ : MethodName)) hown (mvT hZ (hw _ (List.mem_of_getElem? (i := 31) rfl))) (mvT hZ (hw _ (List.mem_of_getElem? (i := 32) rfl))) (mvT hZ (hw _ (List.mem_of_getElem? (i := 1) rfl))) (mvT hZ (hw _ (List.mem_of_getElem? (i := 33) rfl))) (by decide) (backOf (W := 0) (rm_sck l Z aT hw [] i n w1 h0 n0 Z0 hp2 hi0 hi1 hw1) hZ (hw _ (List.mem_of_getElem? (i := 33) rfl)) (hw _ (List.mem_of_getElem? (i := 1) rfl)) (by decide) (by decide)) (g := (mkF m 3 #[.val (.ref a0), .val (.int i)] [(.int n), (.int i)])) rfl (by rw [hml]; rfl) (argsL := [(.int i), (.int n)]) (rest := []) (lenOf pd1 rfl) rfl (by show 2 * 0 + _ ≤ _; exact Nat.le_of_eq rfl) (hb hby d_slc_3) (fun _ _ => ⟨rfl, e0, (by decide : 0 + 0 ≤ _), (by decide : 0 + 0 ≤ _)⟩)
  dsimp only [Pt.U, Pt.locs, Pt.cells, Pt.slots] at X19 l19 y19 z19 st19 hQ19
  subst l19 y19 z19
  obtain ⟨rfl, N19q, eq19⟩ := hQ19
  have N19 := Fr.app N0 N19q
  refine own_go st19 ?_
  show own_Got p e below _ T19 (mkF m 6 #[.val (.ref a0), .val (.int i)] [])
  refine g_aloadN X19 hx hby d_slc_6 rfl rfl (rfl : 6 + 1 = 7) ?_
  refine g_iloadN X19 hx hby d_slc_7 rfl (rfl : 7 + 1 = 8) ?_
  refine g_baload X19 hx hby hZ eq19 (v := (.int bv)) hp0 ⟨hi0, hi1⟩ hp1 d_slc_8 (rfl : 8 + 1 = 9) ?_
  refine g_sipush X19 hx hby (255 : Int32) d_slc_9 (by decide) (rfl : 9 + 3 = 12) ?_
  refine g_iand X19 hx hby d_slc_12 (rfl : 12 + 1 = 13) ?_
  refine g_i2c X19 hx hby d_slc_13 (rfl : 13 + 1 = 14) ?_
  refine own_retN X19 hx hby hlk (t := .char) hrt (by simp) d_slc_14 (by decide) (by decide) ?_
  show Q_slc Z a0 i n bv kb vs w1 h0 n0 _ T19.heap _
  exact ⟨rfl, N19, eq19⟩
theorem d_sch_0 : decode jdk_42_method_56_code 0 = .ok (.aload_n 0, 1) := by decide +kernel
theorem d_sch_1 : decode jdk_42_method_56_code 1 = .ok (.invokevirtual 492, 3) := by decide +kernel
theorem d_sch_4 : decode jdk_42_method_56_code 4 = .ok (.ifCond .eq 12, 3) := by decide +kernel
theorem d_sch_7 : decode jdk_42_method_56_code 7 = .ok (.aload_n 0, 1) := by decide +kernel
theorem d_sch_8 : decode jdk_42_method_56_code 8 = .ok (.getfield 9, 3) := by decide +kernel
theorem d_sch_11 : decode jdk_42_method_56_code 11 = .ok (.iload_n 1, 1) := by decide +kernel
theorem d_sch_12 : decode jdk_42_method_56_code 12 = .ok (.invokestatic 495, 3) := by decide +kernel
theorem d_sch_15 : decode jdk_42_method_56_code 15 = .ok (.ireturn, 1) := by decide +kernel
theorem pd2 : parseMethodDescriptor "()Z" = some ⟨[], some .boolean⟩ := by decide +kernel
theorem pd3 : parseMethodDescriptor "([BI)C" = some ⟨[(.array .byte), .int], some .char⟩ := by decide +kernel
theorem ef_sch (m : MethodId) (a0 : Addr) (i : Int32) : entryFrame m #[(.ref a0), (.int i)] 2 = mkF m 0 #[.val (.ref a0), .val (.int i)] [] := by first | (simp [entryFrame, mkF, argsToLocals, Value.category]; done) | rfl
def F_sch (bv : Int32) : Int32 := (nar .char (F_slc bv))
def Q_sch (Z : State) (a0 : Addr) (i : Int32) (ab : Addr) (n : Int32) (bv : Int32) (kb : ClassId) (vs : List Value) (w1 : Value) (g1 : Int32) (h0 : Heap) (n0 : Nat) (v : Option Value) (h : Heap) (L : List Loc) : Prop := v = some (.int (F_sch bv)) ∧ Fr n0 L ∧ h = h0
set_option maxRecDepth 65536 in
set_option maxHeartbeats 40000000 in
theorem rm_sch (l : Launch) (Z : State) (aT : Array Value) (hw : ∀ d ∈ tables_1, d.before aT Z = true) (ws : List Jvm.Cond) (a0 : Addr) (i : Int32) (ab : Addr) (n : Int32) (bv : Int32) (kb : ClassId) (vs : List Value) (w1 : Value) (g1 : Int32) (h0 : Heap) (n0 : Nat) (Z0 : n0 ≤ h0.size) (hp0 : Exa Z h0 a0 "java/lang/String") (hp1 : Fld Z h0 a0 "java/lang/String" "coder" "B" (.int (0 : Int32))) (hp2 : Fld Z h0 a0 "java/lang/String" "value" "[B" (.ref ab)) (hp3 : Arv Z h0 ab kb .byte n vs (.int (0 : Int32))) (hp4 : vs.getD (i).toNatClampNeg (.int (0 : Int32)) = (.int bv)) (hp5 : Sta Z h0 "jdk/internal/util/Preconditions" "SIOOBE_FORMATTER" "Ljava/util/function/BiFunction;" w1) (hp6 : Sta Z h0 "java/lang/String" "COMPACT_STRINGS" "Z" (.int g1)) (hi0 : ¬ (i < (0 : Int32))) (hi1 : i < n) (hw1 : w1.isRef = true) (hg1 : ¬ (g1 = (0 : Int32))) :
    MetFree l (⟨"java/lang/String", "charAt", "(I)C"⟩ : MethodName) (head1 (Jvm.Cond.code (⟨"java/lang/String", "charAt", "(I)C"⟩ : MethodName) jdk_42_method_56_code 2 (some .char) :: ws) ({ frames := 3, cells := 0, slots := 0, locals := 40 } : Room)) (fun a U => a = #[(.ref a0), (.int i)] ∧ Z.Warmed39 U.vm ∧ U.heap = h0) (fun _ _ _ _ _ => True) (fun _ U o U' => ∃ v L, o = .returned v ∧ Q_sch Z a0 i ab n bv kb vs w1 g1 h0 n0 v U'.heap L ∧ FrameEnd U o U' L ({ frames := 3, cells := 0, slots := 0, locals := 40 } : Room).cells ({ frames := 3, cells := 0, slots := 0, locals := 40 } : Room).slots) := by
  refine MetFree.of_bodySF (plainFor_of_name pn1) hisR ?_
  intro p e s m args below meth c s₁ Bd hml0 hP hK
  obtain ⟨rfl, hZ, hh⟩ := hP
  have hx := Bd.exec
  have hby := Bd.bytes
  have hml : c.maxLocals = 2 := hml0
  have hown : s.vm.findClass "java/lang/String" = some m.cls := findClass_of_methodNamed Bd.named
  have hnm := (name_of_methodNamed Bd.named Bd.method).1
  have hlk := Bd.notSynchronized
  have hrt := Bd.returns
  have X0 : Stand p l e ({ frames := 3, cells := 0, slots := 0, locals := 40 } : Room) s m #[(.ref a0), (.int i)] below meth c s₁ [] 0 0 := Stand.of_body Bd
  have e0 : s₁.heap = h0 := by rw [← hh, Bd.state]; rfl
  have N0 := Fr.nil n0
  refine own_cast (P := own_End s (Q_sch Z a0 i ab n bv kb vs w1 g1 h0 n0) ({ frames := 3, cells := 0, slots := 0, locals := 40 } : Room).cells ({ frames := 3, cells := 0, slots := 0, locals := 40 } : Room).slots) (ef_sch m a0 i) ?_
  refine g_aloadN X0 hx hby d_sch_0 rfl rfl (rfl : 0 + 1 = 1) ?_
  obtain ⟨cq20, kq20, q20a, q20b, q20c⟩ := isOf hZ e0 hp0
  obtain ⟨_, _, ⟨T20, L20, k20, n20⟩, -, X20, ⟨Lc20, hQ20, l20, y20, z20⟩, st20⟩ := X0.virtualBack hx (y := (⟨"java/lang/String", "isLatin1", "()Z"⟩ : MethodName)) (z := (⟨"java/lang/String", "isLatin1", "()Z"⟩ : MethodName)) hown (mvT hZ (hw _ (List.mem_of_getElem? (i := 19) rfl))) (mvT hZ (hw _ (List.mem_of_getElem? (i := 20) rfl))) (notFace_of_selects (args := #[]) (mvT hZ (hw _ (List.mem_of_getElem? (i := 22) rfl)))) (mvT hZ (hw _ (List.mem_of_getElem? (i := 22) rfl))) (mvT hZ (hw _ (List.mem_of_getElem? (i := 21) rfl))) (by decide) (backOf (W := 0) (rm_isl l Z aT hw [] a0 g1 h0 n0 Z0 hp6 hp1 hg1) hZ (hw _ (List.mem_of_getElem? (i := 23) rfl)) (hw _ (List.mem_of_getElem? (i := 1) rfl)) (by decide) (by decide)) q20a q20c (g := (mkF m 1 #[.val (.ref a0), .val (.int i)] [(.ref a0)])) rfl (by rw [hml]; rfl) (Steps.refl _) (argsL := []) (rest := []) (lenOf pd2 rfl) rfl (by show 2 * 0 + _ ≤ _; exact Nat.le_of_eq rfl) (hb hby d_sch_1) (fun _ _ => ⟨rfl, e0, (by decide : 0 + 0 ≤ _), (by decide : 0 + 0 ≤ _)⟩)
  dsimp only [Pt.U, Pt.locs, Pt.cells, Pt.slots] at X20 l20 y20 z20 st20 hQ20
  subst l20 y20 z20
  obtain ⟨rfl, N20q, eq20⟩ := hQ20
  have N20 := Fr.app N0 N20q
  refine own_tr st20 ?_
  show own_Got p e below _ T20 (mkF m 4 #[.val (.ref a0), .val (.int i)] [(.int (1 : Int32))])
  refine g_ifF X20 hx hby d_sch_4 ((if0 _ _).trans (feq (by decide : ¬ ((1 : Int32) = (0 : Int32)))).1) (rfl : 4 + 3 = 7) ?_
  refine g_aloadN X20 hx hby d_sch_7 rfl rfl (rfl : 7 + 1 = 8) ?_
  obtain ⟨T21, X21, e21, st21⟩ := getF X20 hx hZ hown (host := "") (Or.inl (hw _ (List.mem_of_getElem? (i := 26) rfl))) Via.refl eq20 hp2 (g := (mkF m 8 #[.val (.ref a0), .val (.int i)] [(.ref a0)])) rfl rfl (hb hby d_sch_8)
  refine own_go st21 ?_
  show own_Got p e below _ T21 (mkF m 11 #[.val (.ref a0), .val (.int i)] [(.ref ab)])
  refine g_iloadN X21 hx hby d_sch_11 rfl (rfl : 11 + 1 = 12) ?_
  obtain ⟨_, _, ⟨T22, L22, k22, n22⟩, -, X22, ⟨Lc22, hQ22, l22, y22, z22⟩, st22⟩ := Jvm.LawKit.callS X21 hx (y := (⟨"java/lang/StringLatin1", "charAt", "([BI)C"⟩ : MethodName)) hown (mvT hZ (hw _ (List.mem_of_getElem? (i := 27) rfl))) (mvT hZ (hw _ (List.mem_of_getElem? (i := 28) rfl))) (mvT hZ (hw _ (List.mem_of_getElem? (i := 29) rfl))) (mvT hZ (hw _ (List.mem_of_getElem? (i := 30) rfl))) (by decide) (backOf (W := 0) (rm_slc l Z aT hw [] ab i n bv kb vs w1 h0 n0 Z0 hp3 hp4 hp5 hi0 hi1 hw1) hZ (hw _ (List.mem_of_getElem? (i := 30) rfl)) (hw _ (List.mem_of_getElem? (i := 29) rfl)) (by decide) (by decide)) (g := (mkF m 12 #[.val (.ref a0), .val (.int i)] [(.int i), (.ref ab)])) rfl (by rw [hml]; rfl) (argsL := [(.ref ab), (.int i)]) (rest := []) (lenOf pd3 rfl) rfl (by show 2 * 0 + _ ≤ _; exact Nat.le_of_eq rfl) (hb hby d_sch_12) (fun _ _ => ⟨rfl, e21, (by decide : 0 + 0 ≤ _), (by decide : 0 + 0 ≤ _)⟩)
  dsimp only [Pt.U, Pt.locs, Pt.cells, Pt.slots] at X22 l22 y22 z22 st22 hQ22
  subst l22 y22 z22
  obtain ⟨rfl, N22q, eq22⟩ := hQ22
  have N22 := Fr.app N20 N22q
  refine own_go st22 ?_
  show own_Got p e below _ T22 (mkF m 15 #[.val (.ref a0), .val (.int i)] [(.int (F_slc bv))])
  refine own_retN X22 hx hby hlk (t := .char) hrt (by simp) d_sch_15 (by decide) (by decide) ?_
  show Q_sch Z a0 i ab n bv kb vs w1 g1 h0 n0 _ T22.heap _
  exact ⟨rfl, N22, eq22⟩
theorem pn4 : plainName "com/example/lexsign/lexsign/util/HexDigitValuePinLaw" = true := by first | (simp [plainName, overriddenIn]; done) | decide +kernel
theorem pd4 : parseMethodDescriptor "(C)I" = some ⟨[.char], some .int⟩ := by decide +kernel
theorem pd5 : parseMethodDescriptor "(I)C" = some ⟨[.int], some .char⟩ := by decide +kernel
theorem ef_law (m : MethodId) (x0 : Int32) (x1 : Int32) : entryFrame m #[(.int x0), (.int x1)] maxLocals = mkF m 0 #[.val (.int x0), .val (.int x1), .unset, .unset, .unset, .unset, .unset, .unset, .unset, .unset] [] := by first | (simp [entryFrame, mkF, argsToLocals, Value.category, maxLocals]; done) | rfl
def F_law (x0 : Int32) (x1 : Int32) : Int32 := if (F_val ((x0 &&& (65535 : Int32)).toUInt32.toUInt16.toUInt32.toInt32)) = (-1 : Int32) then (if (F_val (F_sch (own_lo (x1 &&& (15 : Int32))))) = (x1 &&& (15 : Int32)) then (if (F_val (F_sch (own_up (x1 &&& (15 : Int32))))) = (x1 &&& (15 : Int32)) then ((1 : Int32)) else ((0 : Int32))) else (if (F_val (F_sch (own_up (x1 &&& (15 : Int32))))) = (x1 &&& (15 : Int32)) then ((0 : Int32)) else ((0 : Int32)))) else (if (F_val ((x0 &&& (65535 : Int32)).toUInt32.toUInt16.toUInt32.toInt32)) < (0 : Int32) then (if (F_val (F_sch (own_lo (x1 &&& (15 : Int32))))) = (x1 &&& (15 : Int32)) then (if (F_val (F_sch (own_up (x1 &&& (15 : Int32))))) = (x1 &&& (15 : Int32)) then ((0 : Int32)) else ((0 : Int32))) else (if (F_val (F_sch (own_up (x1 &&& (15 : Int32))))) = (x1 &&& (15 : Int32)) then ((0 : Int32)) else ((0 : Int32)))) else (if (15 : Int32) < (F_val ((x0 &&& (65535 : Int32)).toUInt32.toUInt16.toUInt32.toInt32)) then (if (F_val (F_sch (own_lo (x1 &&& (15 : Int32))))) = (x1 &&& (15 : Int32)) then (if (F_val (F_sch (own_up (x1 &&& (15 : Int32))))) = (x1 &&& (15 : Int32)) then ((0 : Int32)) else ((0 : Int32))) else (if (F_val (F_sch (own_up (x1 &&& (15 : Int32))))) = (x1 &&& (15 : Int32)) then ((0 : Int32)) else ((0 : Int32)))) else (if (F_sch (own_lo (F_val ((x0 &&& (65535 : Int32)).toUInt32.toUInt16.toUInt32.toInt32)))) = ((x0 &&& (65535 : Int32)).toUInt32.toUInt16.toUInt32.toInt32) then (if (F_val (F_sch (own_lo (x1 &&& (15 : Int32))))) = (x1 &&& (15 : Int32)) then (if (F_val (F_sch (own_up (x1 &&& (15 : Int32))))) = (x1 &&& (15 : Int32)) then ((1 : Int32)) else ((0 : Int32))) else (if (F_val (F_sch (own_up (x1 &&& (15 : Int32))))) = (x1 &&& (15 : Int32)) then ((0 : Int32)) else ((0 : Int32)))) else (if (F_sch (own_up (F_val ((x0 &&& (65535 : Int32)).toUInt32.toUInt16.toUInt32.toInt32)))) = ((x0 &&& (65535 : Int32)).toUInt32.toUInt16.toUInt32.toInt32) then (if (F_val (F_sch (own_lo (x1 &&& (15 : Int32))))) = (x1 &&& (15 : Int32)) then (if (F_val (F_sch (own_up (x1 &&& (15 : Int32))))) = (x1 &&& (15 : Int32)) then ((1 : Int32)) else ((0 : Int32))) else (if (F_val (F_sch (own_up (x1 &&& (15 : Int32))))) = (x1 &&& (15 : Int32)) then ((0 : Int32)) else ((0 : Int32)))) else (if (F_val (F_sch (own_lo (x1 &&& (15 : Int32))))) = (x1 &&& (15 : Int32)) then (if (F_val (F_sch (own_up (x1 &&& (15 : Int32))))) = (x1 &&& (15 : Int32)) then ((0 : Int32)) else ((0 : Int32))) else (if (F_val (F_sch (own_up (x1 &&& (15 : Int32))))) = (x1 &&& (15 : Int32)) then ((0 : Int32)) else ((0 : Int32))))))))
def Q_law (Z : State) (x0 : Int32) (x1 : Int32) (g1 : Int32) (w1 : Value) (h0 : Heap) (n0 : Nat) (v : Option Value) (h : Heap) (L : List Loc) : Prop := v = some (.int (F_law x0 x1)) ∧ Fr n0 L
set_option maxRecDepth 65536 in
set_option maxHeartbeats 40000000 in
theorem rm_law (l : Launch) (Z : State) (aT : Array Value) (hw : ∀ d ∈ tables_1, d.before aT Z = true) (ws : List Jvm.Cond) (x0 : Int32) (x1 : Int32) (g1 : Int32) (w1 : Value) (h0 : Heap) (n0 : Nat) (Z0 : n0 ≤ h0.size) (hp0 : Sta Z h0 "java/lang/String" "COMPACT_STRINGS" "Z" (.int g1)) (hp1 : Sta Z h0 "jdk/internal/util/Preconditions" "SIOOBE_FORMATTER" "Ljava/util/function/BiFunction;" w1) (hg1 : ¬ (g1 = (0 : Int32))) (hw1 : w1.isRef = true) :
    MetFree l x (head1 (Jvm.Cond.code x code maxLocals ret :: ws) room_1) (fun a U => a = #[(.int x0), (.int x1)] ∧ Z.Warmed39 U.vm ∧ U.heap = h0 ∧ CHv Z consts_1 U.vm h0) (fun _ _ _ _ _ => True) (fun _ U o U' => ∃ v L, o = .returned v ∧ Q_law Z x0 x1 g1 w1 h0 n0 v U'.heap L ∧ CHr Z consts_1 U.vm U.heap U'.vm U'.heap ∧ ReturnedEndW U o U' L 8 2112) := by
  refine MetFree.of_bodySF (plainFor_of_name pn4) hisR ?_
  intro p e s m args below meth c s₁ Bd hml0 hP hK
  obtain ⟨rfl, hZ, hh, CH⟩ := hP
  have hx := Bd.exec
  have hby := Bd.bytes
  have hml : c.maxLocals = 10 := hml0
  have hown : (s.setVm s.vm).vm.findClass "com/example/lexsign/lexsign/util/HexDigitValuePinLaw" = some m.cls := findClass_of_methodNamed Bd.named
  have hnm := (name_of_methodNamed Bd.named Bd.method).1
  have hlk := Bd.notSynchronized
  have hrt := Bd.returns
  have hZ : Z.Warmed39 (s.setVm s.vm).vm := hZ
  have hS : s.Since s.vm h0.size := (State.WarmedH.refl s).since _
  have hkk : h0.size ≤ h0.size := Nat.le_refl _
  have hEL := own_EL hw
  have CR0 : CHr Z consts_1 s.vm s.heap s.vm h0 := by rw [hh]; exact CHr.refl CH
  have X0 : Stand p l e room_1 (s.setVm s.vm) m #[(.int x0), (.int x1)] below meth c s₁ [] 0 0 := Stand.of_body Bd
  have e0 : s₁.heap = h0 := by rw [← hh, Bd.state]; rfl
  have N0 := Fr.nil n0
  refine own_cast (P := own_EndW Z consts_1 s (Q_law Z x0 x1 g1 w1 h0 n0) 8 2112) (ef_law m x0 x1) ?_
  obtain ⟨b23, T23, h23, k123, d23, k23, X23, e23, E23, hS, hkk23, hZ, hown, A23, fc23, fv23, V23, -, -, C23, -, ns23, st23⟩ := ldcCH X0 hx hZ hown (hw _ (List.mem_of_getElem? (i := 0) rfl)) (own_wS hw) e0 hS hkk hEL (List.mem_of_getElem? (i := 0) rfl) CR0.1 (vs := [(.int (48 : Int32)), (.int (49 : Int32)), (.int (50 : Int32)), (.int (51 : Int32)), (.int (52 : Int32)), (.int (53 : Int32)), (.int (54 : Int32)), (.int (55 : Int32)), (.int (56 : Int32)), (.int (57 : Int32)), (.int (97 : Int32)), (.int (98 : Int32)), (.int (99 : Int32)), (.int (100 : Int32)), (.int (101 : Int32)), (.int (102 : Int32))]) (z := (16 : Int32)) ⟨by decide +kernel, by decide +kernel⟩ (by decide) (by decide) (g := (mkF m 0 #[.val (.int x0), .val (.int x1), .unset, .unset, .unset, .unset, .unset, .unset, .unset, .unset] [])) rfl (hb hby at_0) (n := 64) (by decide +kernel) (by decide) (by decide) (by decide)
  have Z23 : n0 ≤ h23.size := Nat.le_trans Z0 E23.1
  have hkk := Nat.le_trans hkk (Nat.le_refl _)
  have CR23 := CHr.trans CR0 (C23)
  have hkk := hkk23
  refine own_go st23 ?_
  show own_Got p e below _ T23 (mkF m 2 #[.val (.int x0), .val (.int x1), .unset, .unset, .unset, .unset, .unset, .unset, .unset, .unset] [(.ref b23)])
  refine g_astoreN X23 hx hby #[.val (.int x0), .val (.int x1), .val (.ref b23), .unset, .unset, .unset, .unset, .unset, .unset, .unset] at_2 rfl rfl (rfl : 2 + 1 = 3) ?_
  obtain ⟨b24, T24, h24, k124, d24, k24, X24, e24, E24, hS, hkk24, hZ, hown, A24, fc24, fv24, V24, -, -, C24, -, ns24, st24⟩ := ldcCH X23 hx hZ hown (hw _ (List.mem_of_getElem? (i := 8) rfl)) (own_wS hw) e23 hS hkk hEL (List.mem_of_getElem? (i := 1) rfl) CR23.1 (vs := [(.int (48 : Int32)), (.int (49 : Int32)), (.int (50 : Int32)), (.int (51 : Int32)), (.int (52 : Int32)), (.int (53 : Int32)), (.int (54 : Int32)), (.int (55 : Int32)), (.int (56 : Int32)), (.int (57 : Int32)), (.int (65 : Int32)), (.int (66 : Int32)), (.int (67 : Int32)), (.int (68 : Int32)), (.int (69 : Int32)), (.int (70 : Int32))]) (z := (16 : Int32)) ⟨by decide +kernel, by decide +kernel⟩ (by decide) (by decide) (g := (mkF m 3 #[.val (.int x0), .val (.int x1), .val (.ref b23), .unset, .unset, .unset, .unset, .unset, .unset, .unset] [])) rfl (hb hby at_3) (n := 64) (by decide +kernel) (by decide) (by decide) (by decide)
  have Z24 : n0 ≤ h24.size := Nat.le_trans Z23 E24.1
  have hkk := Nat.le_trans hkk (Nat.le_refl _)
  have CR24 := CHr.trans CR23 (C24)
  have hkk := hkk24
  refine own_go st24 ?_
  show own_Got p e below _ T24 (mkF m 5 #[.val (.int x0), .val (.int x1), .val (.ref b23), .unset, .unset, .unset, .unset, .unset, .unset, .unset] [(.ref b24)])
  refine g_astoreN X24 hx hby #[.val (.int x0), .val (.int x1), .val (.ref b23), .val (.ref b24), .unset, .unset, .unset, .unset, .unset, .unset] at_5 rfl rfl (rfl : 5 + 1 = 6) ?_
  refine g_iloadN X24 hx hby at_6 rfl (rfl : 6 + 1 = 7) ?_
  refine g_ldcI X24 hx hby hZ hown (hw _ (List.mem_of_getElem? (i := 9) rfl)) at_7 (rfl : 7 + 2 = 9) ?_
  refine g_iand X24 hx hby at_9 (rfl : 9 + 1 = 10) ?_
  refine g_i2c X24 hx hby at_10 (rfl : 10 + 1 = 11) ?_
  refine g_istore X24 hx hby #[.val (.int x0), .val (.int x1), .val (.ref b23), .val (.ref b24), .val (.int ((x0 &&& (65535 : Int32)).toUInt32.toUInt16.toUInt32.toInt32)), .unset, .unset, .unset, .unset, .unset] at_11 rfl (rfl : 11 + 2 = 13) ?_
  refine g_iload X24 hx hby at_13 rfl (rfl : 13 + 2 = 15) ?_
  obtain ⟨_, _, ⟨T25, L25, k25, n25⟩, -, X25, ⟨Lc25, hQ25, l25, y25, z25⟩, st25⟩ := Jvm.LawKit.callS X24 hx (y := (⟨"com/example/lexsign/lexsign/util/HexDigit", "value", "(C)I"⟩ : MethodName)) hown (mvT hZ (hw _ (List.mem_of_getElem? (i := 10) rfl))) (mvT hZ (hw _ (List.mem_of_getElem? (i := 11) rfl))) (mvT hZ (hw _ (List.mem_of_getElem? (i := 12) rfl))) (mvT hZ (hw _ (List.mem_of_getElem? (i := 13) rfl))) (by decide) (backOf (W := 0) (rm_val l Z aT hw [] ((x0 &&& (65535 : Int32)).toUInt32.toUInt16.toUInt32.toInt32) h24 n0 Z24) hZ (hw _ (List.mem_of_getElem? (i := 13) rfl)) (hw _ (List.mem_of_getElem? (i := 12) rfl)) (by decide) (by decide)) (g := (mkF m 15 #[.val (.int x0), .val (.int x1), .val (.ref b23), .val (.ref b24), .val (.int ((x0 &&& (65535 : Int32)).toUInt32.toUInt16.toUInt32.toInt32)), .unset, .unset, .unset, .unset, .unset] [(.int ((x0 &&& (65535 : Int32)).toUInt32.toUInt16.toUInt32.toInt32))])) rfl (by rw [hml]; rfl) (argsL := [(.int ((x0 &&& (65535 : Int32)).toUInt32.toUInt16.toUInt32.toInt32))]) (rest := []) (lenOf pd4 rfl) rfl (by show 2 * 0 + _ ≤ _; exact Nat.le_of_eq rfl) (hb hby at_15) (fun _ _ => ⟨rfl, e24, (by decide : 4 + 0 ≤ _), (by decide : 136 + 0 ≤ _)⟩)
  dsimp only [Pt.U, Pt.locs, Pt.cells, Pt.slots] at X25 l25 y25 z25 st25 hQ25
  subst l25 y25 z25
  obtain ⟨rfl, N25q, eq25⟩ := hQ25
  have N25 := Fr.app N0 N25q
  refine own_go st25 ?_
  show own_Got p e below _ T25 (mkF m 18 #[.val (.int x0), .val (.int x1), .val (.ref b23), .val (.ref b24), .val (.int ((x0 &&& (65535 : Int32)).toUInt32.toUInt16.toUInt32.toInt32)), .unset, .unset, .unset, .unset, .unset] [(.int (F_val ((x0 &&& (65535 : Int32)).toUInt32.toUInt16.toUInt32.toInt32)))])
  refine g_istore X25 hx hby #[.val (.int x0), .val (.int x1), .val (.ref b23), .val (.ref b24), .val (.int ((x0 &&& (65535 : Int32)).toUInt32.toUInt16.toUInt32.toInt32)), .val (.int (F_val ((x0 &&& (65535 : Int32)).toUInt32.toUInt16.toUInt32.toInt32))), .unset, .unset, .unset, .unset] at_18 rfl (rfl : 18 + 2 = 20) ?_
  refine g_iload X25 hx hby at_20 rfl (rfl : 20 + 2 = 22) ?_
  refine g_iconst X25 hx hby (-1 : Int32) at_22 (by decide) (rfl : 22 + 1 = 23) ?_
  by_cases c26 : (F_val ((x0 &&& (65535 : Int32)).toUInt32.toUInt16.toUInt32.toInt32)) = (-1 : Int32)
  · refine g_icT X25 hx hby at_23 (teq c26).1 (by decide) (pc' := 60) (by decide) ?_
    refine g_iconst X25 hx hby (1 : Int32) at_60 (by decide) (rfl : 60 + 1 = 61) ?_
    refine g_goto X25 hx hby at_61 (by decide) (pc' := 65) (by decide) ?_
    refine g_istore X25 hx hby #[.val (.int x0), .val (.int x1), .val (.ref b23), .val (.ref b24), .val (.int ((x0 &&& (65535 : Int32)).toUInt32.toUInt16.toUInt32.toInt32)), .val (.int (F_val ((x0 &&& (65535 : Int32)).toUInt32.toUInt16.toUInt32.toInt32))), .val (.int (1 : Int32)), .unset, .unset, .unset] at_65 rfl (rfl : 65 + 2 = 67) ?_
    refine g_iloadN X25 hx hby at_67 rfl (rfl : 67 + 1 = 68) ?_
    refine g_bipush X25 hx hby (15 : Int32) at_68 (by decide) (rfl : 68 + 2 = 70) ?_
    refine g_iand X25 hx hby at_70 (rfl : 70 + 1 = 71) ?_
    refine g_istore X25 hx hby #[.val (.int x0), .val (.int x1), .val (.ref b23), .val (.ref b24), .val (.int ((x0 &&& (65535 : Int32)).toUInt32.toUInt16.toUInt32.toInt32)), .val (.int (F_val ((x0 &&& (65535 : Int32)).toUInt32.toUInt16.toUInt32.toInt32))), .val (.int (1 : Int32)), .val (.int (x1 &&& (15 : Int32))), .unset, .unset] at_71 rfl (rfl : 71 + 2 = 73) ?_
    refine g_aloadN X25 hx hby at_73 rfl rfl (rfl : 73 + 1 = 74) ?_
    refine g_iload X25 hx hby at_74 rfl (rfl : 74 + 2 = 76) ?_
    have o27 : ¬ ((x1 &&& (15 : Int32)) < (0 : Int32)) := (own_d0 _)
    have o28 : (x1 &&& (15 : Int32)) < (16 : Int32) := (own_d1 _)
    have f30 : Exa Z h24 b23 "java/lang/String" := (Exa.ext E24 A23)
    have f31 : Fld Z h24 b23 "java/lang/String" "coder" "B" (.int (0 : Int32)) := (Fld.ext E24 fc23)
    have f32 : Fld Z h24 b23 "java/lang/String" "value" "[B" (.ref d23) := (Fld.ext E24 fv23)
    have f33 : Arv Z h24 d23 k23 .byte (16 : Int32) [(.int (48 : Int32)), (.int (49 : Int32)), (.int (50 : Int32)), (.int (51 : Int32)), (.int (52 : Int32)), (.int (53 : Int32)), (.int (54 : Int32)), (.int (55 : Int32)), (.int (56 : Int32)), (.int (57 : Int32)), (.int (97 : Int32)), (.int (98 : Int32)), (.int (99 : Int32)), (.int (100 : Int32)), (.int (101 : Int32)), (.int (102 : Int32))] (.int (0 : Int32)) := (V23.ext E24)
    have f34 : Sta Z h24 "jdk/internal/util/Preconditions" "SIOOBE_FORMATTER" "Ljava/util/function/BiFunction;" w1 := (Sta.ext E24 (Sta.ext E23 hp1))
    have f35 : Sta Z h24 "java/lang/String" "COMPACT_STRINGS" "Z" (.int g1) := (Sta.ext E24 (Sta.ext E23 hp0))
    obtain ⟨cq29, kq29, q29a, q29b, q29c⟩ := isOf hZ eq25 f30
    obtain ⟨_, _, ⟨T29, L29, k29, n29⟩, -, X29, ⟨Lc29, hQ29, l29, y29, z29⟩, st29⟩ := X25.virtualBack hx (y := (⟨"java/lang/String", "charAt", "(I)C"⟩ : MethodName)) (z := (⟨"java/lang/String", "charAt", "(I)C"⟩ : MethodName)) hown (mvT hZ (hw _ (List.mem_of_getElem? (i := 14) rfl))) (mvT hZ (hw _ (List.mem_of_getElem? (i := 15) rfl))) (notFace_of_selects (args := #[]) (mvT hZ (hw _ (List.mem_of_getElem? (i := 17) rfl)))) (mvT hZ (hw _ (List.mem_of_getElem? (i := 17) rfl))) (mvT hZ (hw _ (List.mem_of_getElem? (i := 16) rfl))) (by decide) (backOf (W := 0) (rm_sch l Z aT hw [] b23 (x1 &&& (15 : Int32)) d23 (16 : Int32) (own_lo (x1 &&& (15 : Int32))) k23 [(.int (48 : Int32)), (.int (49 : Int32)), (.int (50 : Int32)), (.int (51 : Int32)), (.int (52 : Int32)), (.int (53 : Int32)), (.int (54 : Int32)), (.int (55 : Int32)), (.int (56 : Int32)), (.int (57 : Int32)), (.int (97 : Int32)), (.int (98 : Int32)), (.int (99 : Int32)), (.int (100 : Int32)), (.int (101 : Int32)), (.int (102 : Int32))] w1 g1 h24 n0 Z24 f30 f31 f32 f33 (own_elo (x1 &&& (15 : Int32))) f34 f35 o27 o28 hw1 hg1) hZ (hw _ (List.mem_of_getElem? (i := 18) rfl)) (hw _ (List.mem_of_getElem? (i := 1) rfl)) (by decide) (by decide)) q29a q29c (g := (mkF m 76 #[.val (.int x0), .val (.int x1), .val (.ref b23), .val (.ref b24), .val (.int ((x0 &&& (65535 : Int32)).toUInt32.toUInt16.toUInt32.toInt32)), .val (.int (F_val ((x0 &&& (65535 : Int32)).toUInt32.toUInt16.toUInt32.toInt32))), .val (.int (1 : Int32)), .val (.int (x1 &&& (15 : Int32))), .unset, .unset] [(.int (x1 &&& (15 : Int32))), (.ref b23)])) rfl (by rw [hml]; rfl) (Steps.refl _) (argsL := [(.int (x1 &&& (15 : Int32)))]) (rest := []) (lenOf pd5 rfl) rfl (by show 2 * 0 + _ ≤ _; exact Nat.le_of_eq rfl) (hb hby at_76) (fun _ _ => ⟨rfl, eq25, (by decide : 4 + 0 ≤ _), (by decide : 136 + 0 ≤ _)⟩)
    dsimp only [Pt.U, Pt.locs, Pt.cells, Pt.slots] at X29 l29 y29 z29 st29 hQ29
    subst l29 y29 z29
    obtain ⟨rfl, N29q, eq29⟩ := hQ29
    have N29 := Fr.app N25 N29q
    refine own_tr st29 ?_
    show own_Got p e below _ T29 (mkF m 79 #[.val (.int x0), .val (.int x1), .val (.ref b23), .val (.ref b24), .val (.int ((x0 &&& (65535 : Int32)).toUInt32.toUInt16.toUInt32.toInt32)), .val (.int (F_val ((x0 &&& (65535 : Int32)).toUInt32.toUInt16.toUInt32.toInt32))), .val (.int (1 : Int32)), .val (.int (x1 &&& (15 : Int32))), .unset, .unset] [(.int (F_sch (own_lo (x1 &&& (15 : Int32)))))])
    obtain ⟨_, _, ⟨T36, L36, k36, n36⟩, -, X36, ⟨Lc36, hQ36, l36, y36, z36⟩, st36⟩ := Jvm.LawKit.callS X29 hx (y := (⟨"com/example/lexsign/lexsign/util/HexDigit", "value", "(C)I"⟩ : MethodName)) hown (mvT hZ (hw _ (List.mem_of_getElem? (i := 10) rfl))) (mvT hZ (hw _ (List.mem_of_getElem? (i := 11) rfl))) (mvT hZ (hw _ (List.mem_of_getElem? (i := 12) rfl))) (mvT hZ (hw _ (List.mem_of_getElem? (i := 13) rfl))) (by decide) (backOf (W := 0) (rm_val l Z aT hw [] (F_sch (own_lo (x1 &&& (15 : Int32)))) h24 n0 Z24) hZ (hw _ (List.mem_of_getElem? (i := 13) rfl)) (hw _ (List.mem_of_getElem? (i := 12) rfl)) (by decide) (by decide)) (g := (mkF m 79 #[.val (.int x0), .val (.int x1), .val (.ref b23), .val (.ref b24), .val (.int ((x0 &&& (65535 : Int32)).toUInt32.toUInt16.toUInt32.toInt32)), .val (.int (F_val ((x0 &&& (65535 : Int32)).toUInt32.toUInt16.toUInt32.toInt32))), .val (.int (1 : Int32)), .val (.int (x1 &&& (15 : Int32))), .unset, .unset] [(.int (F_sch (own_lo (x1 &&& (15 : Int32)))))])) rfl (by rw [hml]; rfl) (argsL := [(.int (F_sch (own_lo (x1 &&& (15 : Int32)))))]) (rest := []) (lenOf pd4 rfl) rfl (by show 2 * 0 + _ ≤ _; exact Nat.le_of_eq rfl) (hb hby at_79) (fun _ _ => ⟨rfl, eq29, (by decide : 4 + 0 ≤ _), (by decide : 136 + 0 ≤ _)⟩)
    dsimp only [Pt.U, Pt.locs, Pt.cells, Pt.slots] at X36 l36 y36 z36 st36 hQ36
    subst l36 y36 z36
    obtain ⟨rfl, N36q, eq36⟩ := hQ36
    have N36 := Fr.app N29 N36q
    refine own_go st36 ?_
    show own_Got p e below _ T36 (mkF m 82 #[.val (.int x0), .val (.int x1), .val (.ref b23), .val (.ref b24), .val (.int ((x0 &&& (65535 : Int32)).toUInt32.toUInt16.toUInt32.toInt32)), .val (.int (F_val ((x0 &&& (65535 : Int32)).toUInt32.toUInt16.toUInt32.toInt32))), .val (.int (1 : Int32)), .val (.int (x1 &&& (15 : Int32))), .unset, .unset] [(.int (F_val (F_sch (own_lo (x1 &&& (15 : Int32))))))])
    refine g_iload X36 hx hby at_82 rfl (rfl : 82 + 2 = 84) ?_
    by_cases c37 : (F_val (F_sch (own_lo (x1 &&& (15 : Int32))))) = (x1 &&& (15 : Int32))
    · refine g_icF X36 hx hby at_84 (teq c37).2 (rfl : 84 + 3 = 87) ?_
      refine g_iconst X36 hx hby (1 : Int32) at_87 (by decide) (rfl : 87 + 1 = 88) ?_
      refine g_goto X36 hx hby at_88 (by decide) (pc' := 92) (by decide) ?_
      refine g_istore X36 hx hby #[.val (.int x0), .val (.int x1), .val (.ref b23), .val (.ref b24), .val (.int ((x0 &&& (65535 : Int32)).toUInt32.toUInt16.toUInt32.toInt32)), .val (.int (F_val ((x0 &&& (65535 : Int32)).toUInt32.toUInt16.toUInt32.toInt32))), .val (.int (1 : Int32)), .val (.int (x1 &&& (15 : Int32))), .val (.int (1 : Int32)), .unset] at_92 rfl (rfl : 92 + 2 = 94) ?_
      refine g_aloadN X36 hx hby at_94 rfl rfl (rfl : 94 + 1 = 95) ?_
      refine g_iload X36 hx hby at_95 rfl (rfl : 95 + 2 = 97) ?_
      obtain ⟨cq38, kq38, q38a, q38b, q38c⟩ := isOf hZ eq36 A24
      obtain ⟨_, _, ⟨T38, L38, k38, n38⟩, -, X38, ⟨Lc38, hQ38, l38, y38, z38⟩, st38⟩ := X36.virtualBack hx (y := (⟨"java/lang/String", "charAt", "(I)C"⟩ : MethodName)) (z := (⟨"java/lang/String", "charAt", "(I)C"⟩ : MethodName)) hown (mvT hZ (hw _ (List.mem_of_getElem? (i := 14) rfl))) (mvT hZ (hw _ (List.mem_of_getElem? (i := 15) rfl))) (notFace_of_selects (args := #[]) (mvT hZ (hw _ (List.mem_of_getElem? (i := 17) rfl)))) (mvT hZ (hw _ (List.mem_of_getElem? (i := 17) rfl))) (mvT hZ (hw _ (List.mem_of_getElem? (i := 16) rfl))) (by decide) (backOf (W := 0) (rm_sch l Z aT hw [] b24 (x1 &&& (15 : Int32)) d24 (16 : Int32) (own_up (x1 &&& (15 : Int32))) k24 [(.int (48 : Int32)), (.int (49 : Int32)), (.int (50 : Int32)), (.int (51 : Int32)), (.int (52 : Int32)), (.int (53 : Int32)), (.int (54 : Int32)), (.int (55 : Int32)), (.int (56 : Int32)), (.int (57 : Int32)), (.int (65 : Int32)), (.int (66 : Int32)), (.int (67 : Int32)), (.int (68 : Int32)), (.int (69 : Int32)), (.int (70 : Int32))] w1 g1 h24 n0 Z24 A24 fc24 fv24 V24 (own_eup (x1 &&& (15 : Int32))) f34 f35 o27 o28 hw1 hg1) hZ (hw _ (List.mem_of_getElem? (i := 18) rfl)) (hw _ (List.mem_of_getElem? (i := 1) rfl)) (by decide) (by decide)) q38a q38c (g := (mkF m 97 #[.val (.int x0), .val (.int x1), .val (.ref b23), .val (.ref b24), .val (.int ((x0 &&& (65535 : Int32)).toUInt32.toUInt16.toUInt32.toInt32)), .val (.int (F_val ((x0 &&& (65535 : Int32)).toUInt32.toUInt16.toUInt32.toInt32))), .val (.int (1 : Int32)), .val (.int (x1 &&& (15 : Int32))), .val (.int (1 : Int32)), .unset] [(.int (x1 &&& (15 : Int32))), (.ref b24)])) rfl (by rw [hml]; rfl) (Steps.refl _) (argsL := [(.int (x1 &&& (15 : Int32)))]) (rest := []) (lenOf pd5 rfl) rfl (by show 2 * 0 + _ ≤ _; exact Nat.le_of_eq rfl) (hb hby at_97) (fun _ _ => ⟨rfl, eq36, (by decide : 4 + 0 ≤ _), (by decide : 136 + 0 ≤ _)⟩)
      dsimp only [Pt.U, Pt.locs, Pt.cells, Pt.slots] at X38 l38 y38 z38 st38 hQ38
      subst l38 y38 z38
      obtain ⟨rfl, N38q, eq38⟩ := hQ38
      have N38 := Fr.app N36 N38q
      refine own_tr st38 ?_
      show own_Got p e below _ T38 (mkF m 100 #[.val (.int x0), .val (.int x1), .val (.ref b23), .val (.ref b24), .val (.int ((x0 &&& (65535 : Int32)).toUInt32.toUInt16.toUInt32.toInt32)), .val (.int (F_val ((x0 &&& (65535 : Int32)).toUInt32.toUInt16.toUInt32.toInt32))), .val (.int (1 : Int32)), .val (.int (x1 &&& (15 : Int32))), .val (.int (1 : Int32)), .unset] [(.int (F_sch (own_up (x1 &&& (15 : Int32)))))])
      obtain ⟨_, _, ⟨T39, L39, k39, n39⟩, -, X39, ⟨Lc39, hQ39, l39, y39, z39⟩, st39⟩ := Jvm.LawKit.callS X38 hx (y := (⟨"com/example/lexsign/lexsign/util/HexDigit", "value", "(C)I"⟩ : MethodName)) hown (mvT hZ (hw _ (List.mem_of_getElem? (i := 10) rfl))) (mvT hZ (hw _ (List.mem_of_getElem? (i := 11) rfl))) (mvT hZ (hw _ (List.mem_of_getElem? (i := 12) rfl))) (mvT hZ (hw _ (List.mem_of_getElem? (i := 13) rfl))) (by decide) (backOf (W := 0) (rm_val l Z aT hw [] (F_sch (own_up (x1 &&& (15 : Int32)))) h24 n0 Z24) hZ (hw _ (List.mem_of_getElem? (i := 13) rfl)) (hw _ (List.mem_of_getElem? (i := 12) rfl)) (by decide) (by decide)) (g := (mkF m 100 #[.val (.int x0), .val (.int x1), .val (.ref b23), .val (.ref b24), .val (.int ((x0 &&& (65535 : Int32)).toUInt32.toUInt16.toUInt32.toInt32)), .val (.int (F_val ((x0 &&& (65535 : Int32)).toUInt32.toUInt16.toUInt32.toInt32))), .val (.int (1 : Int32)), .val (.int (x1 &&& (15 : Int32))), .val (.int (1 : Int32)), .unset] [(.int (F_sch (own_up (x1 &&& (15 : Int32)))))])) rfl (by rw [hml]; rfl) (argsL := [(.int (F_sch (own_up (x1 &&& (15 : Int32)))))]) (rest := []) (lenOf pd4 rfl) rfl (by show 2 * 0 + _ ≤ _; exact Nat.le_of_eq rfl) (hb hby at_100) (fun _ _ => ⟨rfl, eq38, (by decide : 4 + 0 ≤ _), (by decide : 136 + 0 ≤ _)⟩)
      dsimp only [Pt.U, Pt.locs, Pt.cells, Pt.slots] at X39 l39 y39 z39 st39 hQ39
      subst l39 y39 z39
      obtain ⟨rfl, N39q, eq39⟩ := hQ39
      have N39 := Fr.app N38 N39q
      refine own_go st39 ?_
      show own_Got p e below _ T39 (mkF m 103 #[.val (.int x0), .val (.int x1), .val (.ref b23), .val (.ref b24), .val (.int ((x0 &&& (65535 : Int32)).toUInt32.toUInt16.toUInt32.toInt32)), .val (.int (F_val ((x0 &&& (65535 : Int32)).toUInt32.toUInt16.toUInt32.toInt32))), .val (.int (1 : Int32)), .val (.int (x1 &&& (15 : Int32))), .val (.int (1 : Int32)), .unset] [(.int (F_val (F_sch (own_up (x1 &&& (15 : Int32))))))])
      refine g_iload X39 hx hby at_103 rfl (rfl : 103 + 2 = 105) ?_
      by_cases c40 : (F_val (F_sch (own_up (x1 &&& (15 : Int32))))) = (x1 &&& (15 : Int32))
      · refine g_icF X39 hx hby at_105 (teq c40).2 (rfl : 105 + 3 = 108) ?_
        refine g_iconst X39 hx hby (1 : Int32) at_108 (by decide) (rfl : 108 + 1 = 109) ?_
        refine g_goto X39 hx hby at_109 (by decide) (pc' := 113) (by decide) ?_
        refine g_istore X39 hx hby #[.val (.int x0), .val (.int x1), .val (.ref b23), .val (.ref b24), .val (.int ((x0 &&& (65535 : Int32)).toUInt32.toUInt16.toUInt32.toInt32)), .val (.int (F_val ((x0 &&& (65535 : Int32)).toUInt32.toUInt16.toUInt32.toInt32))), .val (.int (1 : Int32)), .val (.int (x1 &&& (15 : Int32))), .val (.int (1 : Int32)), .val (.int (1 : Int32))] at_113 rfl (rfl : 113 + 2 = 115) ?_
        refine g_iload X39 hx hby at_115 rfl (rfl : 115 + 2 = 117) ?_
        refine g_ifF X39 hx hby at_117 ((if0 _ _).trans (feq (by decide : ¬ ((1 : Int32) = (0 : Int32)))).1) (rfl : 117 + 3 = 120) ?_
        refine g_iload X39 hx hby at_120 rfl (rfl : 120 + 2 = 122) ?_
        refine g_ifF X39 hx hby at_122 ((if0 _ _).trans (feq (by decide : ¬ ((1 : Int32) = (0 : Int32)))).1) (rfl : 122 + 3 = 125) ?_
        refine g_iload X39 hx hby at_125 rfl (rfl : 125 + 2 = 127) ?_
        refine g_ifF X39 hx hby at_127 ((if0 _ _).trans (feq (by decide : ¬ ((1 : Int32) = (0 : Int32)))).1) (rfl : 127 + 3 = 130) ?_
        refine g_iconst X39 hx hby (1 : Int32) at_130 (by decide) (rfl : 130 + 1 = 131) ?_
        refine g_goto X39 hx hby at_131 (by decide) (pc' := 135) (by decide) ?_
        refine own_retNW X39 hx hby hS hkk hZ hEL eq39 CR24 hlk (t := .boolean) hrt (by simp) at_135 (by decide) (by decide) ?_
        show Q_law Z x0 x1 g1 w1 h0 n0 _ T39.heap _
        exact ⟨(congrArg (fun z => some (Value.int z)) (by rw [F_law, if_pos c26, if_pos c37, if_pos c40] <;> rfl)), N39⟩
      · refine g_icT X39 hx hby at_105 (feq c40).2 (by decide) (pc' := 112) (by decide) ?_
        refine g_iconst X39 hx hby (0 : Int32) at_112 (by decide) (rfl : 112 + 1 = 113) ?_
        refine g_istore X39 hx hby #[.val (.int x0), .val (.int x1), .val (.ref b23), .val (.ref b24), .val (.int ((x0 &&& (65535 : Int32)).toUInt32.toUInt16.toUInt32.toInt32)), .val (.int (F_val ((x0 &&& (65535 : Int32)).toUInt32.toUInt16.toUInt32.toInt32))), .val (.int (1 : Int32)), .val (.int (x1 &&& (15 : Int32))), .val (.int (1 : Int32)), .val (.int (0 : Int32))] at_113 rfl (rfl : 113 + 2 = 115) ?_
        refine g_iload X39 hx hby at_115 rfl (rfl : 115 + 2 = 117) ?_
        refine g_ifF X39 hx hby at_117 ((if0 _ _).trans (feq (by decide : ¬ ((1 : Int32) = (0 : Int32)))).1) (rfl : 117 + 3 = 120) ?_
        refine g_iload X39 hx hby at_120 rfl (rfl : 120 + 2 = 122) ?_
        refine g_ifF X39 hx hby at_122 ((if0 _ _).trans (feq (by decide : ¬ ((1 : Int32) = (0 : Int32)))).1) (rfl : 122 + 3 = 125) ?_
        refine g_iload X39 hx hby at_125 rfl (rfl : 125 + 2 = 127) ?_
        refine g_ifT X39 hx hby at_127 ((if0 _ _).trans (teq (by decide : (0 : Int32) = (0 : Int32))).1) (by decide) (pc' := 134) (by decide) ?_
        refine g_iconst X39 hx hby (0 : Int32) at_134 (by decide) (rfl : 134 + 1 = 135) ?_
        refine own_retNW X39 hx hby hS hkk hZ hEL eq39 CR24 hlk (t := .boolean) hrt (by simp) at_135 (by decide) (by decide) ?_
        show Q_law Z x0 x1 g1 w1 h0 n0 _ T39.heap _
        exact ⟨(congrArg (fun z => some (Value.int z)) (by rw [F_law, if_pos c26, if_pos c37, if_neg c40] <;> rfl)), N39⟩
    · refine g_icT X36 hx hby at_84 (feq c37).2 (by decide) (pc' := 91) (by decide) ?_
      refine g_iconst X36 hx hby (0 : Int32) at_91 (by decide) (rfl : 91 + 1 = 92) ?_
      refine g_istore X36 hx hby #[.val (.int x0), .val (.int x1), .val (.ref b23), .val (.ref b24), .val (.int ((x0 &&& (65535 : Int32)).toUInt32.toUInt16.toUInt32.toInt32)), .val (.int (F_val ((x0 &&& (65535 : Int32)).toUInt32.toUInt16.toUInt32.toInt32))), .val (.int (1 : Int32)), .val (.int (x1 &&& (15 : Int32))), .val (.int (0 : Int32)), .unset] at_92 rfl (rfl : 92 + 2 = 94) ?_
      refine g_aloadN X36 hx hby at_94 rfl rfl (rfl : 94 + 1 = 95) ?_
      refine g_iload X36 hx hby at_95 rfl (rfl : 95 + 2 = 97) ?_
      obtain ⟨cq41, kq41, q41a, q41b, q41c⟩ := isOf hZ eq36 A24
      obtain ⟨_, _, ⟨T41, L41, k41, n41⟩, -, X41, ⟨Lc41, hQ41, l41, y41, z41⟩, st41⟩ := X36.virtualBack hx (y := (⟨"java/lang/String", "charAt", "(I)C"⟩ : MethodName)) (z := (⟨"java/lang/String", "charAt", "(I)C"⟩ : MethodName)) hown (mvT hZ (hw _ (List.mem_of_getElem? (i := 14) rfl))) (mvT hZ (hw _ (List.mem_of_getElem? (i := 15) rfl))) (notFace_of_selects (args := #[]) (mvT hZ (hw _ (List.mem_of_getElem? (i := 17) rfl)))) (mvT hZ (hw _ (List.mem_of_getElem? (i := 17) rfl))) (mvT hZ (hw _ (List.mem_of_getElem? (i := 16) rfl))) (by decide) (backOf (W := 0) (rm_sch l Z aT hw [] b24 (x1 &&& (15 : Int32)) d24 (16 : Int32) (own_up (x1 &&& (15 : Int32))) k24 [(.int (48 : Int32)), (.int (49 : Int32)), (.int (50 : Int32)), (.int (51 : Int32)), (.int (52 : Int32)), (.int (53 : Int32)), (.int (54 : Int32)), (.int (55 : Int32)), (.int (56 : Int32)), (.int (57 : Int32)), (.int (65 : Int32)), (.int (66 : Int32)), (.int (67 : Int32)), (.int (68 : Int32)), (.int (69 : Int32)), (.int (70 : Int32))] w1 g1 h24 n0 Z24 A24 fc24 fv24 V24 (own_eup (x1 &&& (15 : Int32))) f34 f35 o27 o28 hw1 hg1) hZ (hw _ (List.mem_of_getElem? (i := 18) rfl)) (hw _ (List.mem_of_getElem? (i := 1) rfl)) (by decide) (by decide)) q41a q41c (g := (mkF m 97 #[.val (.int x0), .val (.int x1), .val (.ref b23), .val (.ref b24), .val (.int ((x0 &&& (65535 : Int32)).toUInt32.toUInt16.toUInt32.toInt32)), .val (.int (F_val ((x0 &&& (65535 : Int32)).toUInt32.toUInt16.toUInt32.toInt32))), .val (.int (1 : Int32)), .val (.int (x1 &&& (15 : Int32))), .val (.int (0 : Int32)), .unset] [(.int (x1 &&& (15 : Int32))), (.ref b24)])) rfl (by rw [hml]; rfl) (Steps.refl _) (argsL := [(.int (x1 &&& (15 : Int32)))]) (rest := []) (lenOf pd5 rfl) rfl (by show 2 * 0 + _ ≤ _; exact Nat.le_of_eq rfl) (hb hby at_97) (fun _ _ => ⟨rfl, eq36, (by decide : 4 + 0 ≤ _), (by decide : 136 + 0 ≤ _)⟩)
      dsimp only [Pt.U, Pt.locs, Pt.cells, Pt.slots] at X41 l41 y41 z41 st41 hQ41
      subst l41 y41 z41
      obtain ⟨rfl, N41q, eq41⟩ := hQ41
      have N41 := Fr.app N36 N41q
      refine own_tr st41 ?_
      show own_Got p e below _ T41 (mkF m 100 #[.val (.int x0), .val (.int x1), .val (.ref b23), .val (.ref b24), .val (.int ((x0 &&& (65535 : Int32)).toUInt32.toUInt16.toUInt32.toInt32)), .val (.int (F_val ((x0 &&& (65535 : Int32)).toUInt32.toUInt16.toUInt32.toInt32))), .val (.int (1 : Int32)), .val (.int (x1 &&& (15 : Int32))), .val (.int (0 : Int32)), .unset] [(.int (F_sch (own_up (x1 &&& (15 : Int32)))))])
      obtain ⟨_, _, ⟨T42, L42, k42, n42⟩, -, X42, ⟨Lc42, hQ42, l42, y42, z42⟩, st42⟩ := Jvm.LawKit.callS X41 hx (y := (⟨"com/example/lexsign/lexsign/util/HexDigit", "value", "(C)I"⟩ : MethodName)) hown (mvT hZ (hw _ (List.mem_of_getElem? (i := 10) rfl))) (mvT hZ (hw _ (List.mem_of_getElem? (i := 11) rfl))) (mvT hZ (hw _ (List.mem_of_getElem? (i := 12) rfl))) (mvT hZ (hw _ (List.mem_of_getElem? (i := 13) rfl))) (by decide) (backOf (W := 0) (rm_val l Z aT hw [] (F_sch (own_up (x1 &&& (15 : Int32)))) h24 n0 Z24) hZ (hw _ (List.mem_of_getElem? (i := 13) rfl)) (hw _ (List.mem_of_getElem? (i := 12) rfl)) (by decide) (by decide)) (g := (mkF m 100 #[.val (.int x0), .val (.int x1), .val (.ref b23), .val (.ref b24), .val (.int ((x0 &&& (65535 : Int32)).toUInt32.toUInt16.toUInt32.toInt32)), .val (.int (F_val ((x0 &&& (65535 : Int32)).toUInt32.toUInt16.toUInt32.toInt32))), .val (.int (1 : Int32)), .val (.int (x1 &&& (15 : Int32))), .val (.int (0 : Int32)), .unset] [(.int (F_sch (own_up (x1 &&& (15 : Int32)))))])) rfl (by rw [hml]; rfl) (argsL := [(.int (F_sch (own_up (x1 &&& (15 : Int32)))))]) (rest := []) (lenOf pd4 rfl) rfl (by show 2 * 0 + _ ≤ _; exact Nat.le_of_eq rfl) (hb hby at_100) (fun _ _ => ⟨rfl, eq41, (by decide : 4 + 0 ≤ _), (by decide : 136 + 0 ≤ _)⟩)
      dsimp only [Pt.U, Pt.locs, Pt.cells, Pt.slots] at X42 l42 y42 z42 st42 hQ42
      subst l42 y42 z42
      obtain ⟨rfl, N42q, eq42⟩ := hQ42
      have N42 := Fr.app N41 N42q
      refine own_go st42 ?_
      show own_Got p e below _ T42 (mkF m 103 #[.val (.int x0), .val (.int x1), .val (.ref b23), .val (.ref b24), .val (.int ((x0 &&& (65535 : Int32)).toUInt32.toUInt16.toUInt32.toInt32)), .val (.int (F_val ((x0 &&& (65535 : Int32)).toUInt32.toUInt16.toUInt32.toInt32))), .val (.int (1 : Int32)), .val (.int (x1 &&& (15 : Int32))), .val (.int (0 : Int32)), .unset] [(.int (F_val (F_sch (own_up (x1 &&& (15 : Int32))))))])
      refine g_iload X42 hx hby at_103 rfl (rfl : 103 + 2 = 105) ?_
      by_cases c43 : (F_val (F_sch (own_up (x1 &&& (15 : Int32))))) = (x1 &&& (15 : Int32))
      · refine g_icF X42 hx hby at_105 (teq c43).2 (rfl : 105 + 3 = 108) ?_
        refine g_iconst X42 hx hby (1 : Int32) at_108 (by decide) (rfl : 108 + 1 = 109) ?_
        refine g_goto X42 hx hby at_109 (by decide) (pc' := 113) (by decide) ?_
        refine g_istore X42 hx hby #[.val (.int x0), .val (.int x1), .val (.ref b23), .val (.ref b24), .val (.int ((x0 &&& (65535 : Int32)).toUInt32.toUInt16.toUInt32.toInt32)), .val (.int (F_val ((x0 &&& (65535 : Int32)).toUInt32.toUInt16.toUInt32.toInt32))), .val (.int (1 : Int32)), .val (.int (x1 &&& (15 : Int32))), .val (.int (0 : Int32)), .val (.int (1 : Int32))] at_113 rfl (rfl : 113 + 2 = 115) ?_
        refine g_iload X42 hx hby at_115 rfl (rfl : 115 + 2 = 117) ?_
        refine g_ifF X42 hx hby at_117 ((if0 _ _).trans (feq (by decide : ¬ ((1 : Int32) = (0 : Int32)))).1) (rfl : 117 + 3 = 120) ?_
        refine g_iload X42 hx hby at_120 rfl (rfl : 120 + 2 = 122) ?_
        refine g_ifT X42 hx hby at_122 ((if0 _ _).trans (teq (by decide : (0 : Int32) = (0 : Int32))).1) (by decide) (pc' := 134) (by decide) ?_
        refine g_iconst X42 hx hby (0 : Int32) at_134 (by decide) (rfl : 134 + 1 = 135) ?_
        refine own_retNW X42 hx hby hS hkk hZ hEL eq42 CR24 hlk (t := .boolean) hrt (by simp) at_135 (by decide) (by decide) ?_
        show Q_law Z x0 x1 g1 w1 h0 n0 _ T42.heap _
        exact ⟨(congrArg (fun z => some (Value.int z)) (by rw [F_law, if_pos c26, if_neg c37, if_pos c43] <;> rfl)), N42⟩
      · refine g_icT X42 hx hby at_105 (feq c43).2 (by decide) (pc' := 112) (by decide) ?_
        refine g_iconst X42 hx hby (0 : Int32) at_112 (by decide) (rfl : 112 + 1 = 113) ?_
        refine g_istore X42 hx hby #[.val (.int x0), .val (.int x1), .val (.ref b23), .val (.ref b24), .val (.int ((x0 &&& (65535 : Int32)).toUInt32.toUInt16.toUInt32.toInt32)), .val (.int (F_val ((x0 &&& (65535 : Int32)).toUInt32.toUInt16.toUInt32.toInt32))), .val (.int (1 : Int32)), .val (.int (x1 &&& (15 : Int32))), .val (.int (0 : Int32)), .val (.int (0 : Int32))] at_113 rfl (rfl : 113 + 2 = 115) ?_
        refine g_iload X42 hx hby at_115 rfl (rfl : 115 + 2 = 117) ?_
        refine g_ifF X42 hx hby at_117 ((if0 _ _).trans (feq (by decide : ¬ ((1 : Int32) = (0 : Int32)))).1) (rfl : 117 + 3 = 120) ?_
        refine g_iload X42 hx hby at_120 rfl (rfl : 120 + 2 = 122) ?_
        refine g_ifT X42 hx hby at_122 ((if0 _ _).trans (teq (by decide : (0 : Int32) = (0 : Int32))).1) (by decide) (pc' := 134) (by decide) ?_
        refine g_iconst X42 hx hby (0 : Int32) at_134 (by decide) (rfl : 134 + 1 = 135) ?_
        refine own_retNW X42 hx hby hS hkk hZ hEL eq42 CR24 hlk (t := .boolean) hrt (by simp) at_135 (by decide) (by decide) ?_
        show Q_law Z x0 x1 g1 w1 h0 n0 _ T42.heap _
        exact ⟨(congrArg (fun z => some (Value.int z)) (by rw [F_law, if_pos c26, if_neg c37, if_neg c43] <;> rfl)), N42⟩
  · refine g_icF X25 hx hby at_23 (feq c26).1 (rfl : 23 + 3 = 26) ?_
    refine g_iload X25 hx hby at_26 rfl (rfl : 26 + 2 = 28) ?_
    by_cases c44 : (F_val ((x0 &&& (65535 : Int32)).toUInt32.toUInt16.toUInt32.toInt32)) < (0 : Int32)
    · refine g_ifT X25 hx hby at_28 ((if0 _ _).trans (tlt c44).1) (by decide) (pc' := 64) (by decide) ?_
      refine g_iconst X25 hx hby (0 : Int32) at_64 (by decide) (rfl : 64 + 1 = 65) ?_
      refine g_istore X25 hx hby #[.val (.int x0), .val (.int x1), .val (.ref b23), .val (.ref b24), .val (.int ((x0 &&& (65535 : Int32)).toUInt32.toUInt16.toUInt32.toInt32)), .val (.int (F_val ((x0 &&& (65535 : Int32)).toUInt32.toUInt16.toUInt32.toInt32))), .val (.int (0 : Int32)), .unset, .unset, .unset] at_65 rfl (rfl : 65 + 2 = 67) ?_
      refine g_iloadN X25 hx hby at_67 rfl (rfl : 67 + 1 = 68) ?_
      refine g_bipush X25 hx hby (15 : Int32) at_68 (by decide) (rfl : 68 + 2 = 70) ?_
      refine g_iand X25 hx hby at_70 (rfl : 70 + 1 = 71) ?_
      refine g_istore X25 hx hby #[.val (.int x0), .val (.int x1), .val (.ref b23), .val (.ref b24), .val (.int ((x0 &&& (65535 : Int32)).toUInt32.toUInt16.toUInt32.toInt32)), .val (.int (F_val ((x0 &&& (65535 : Int32)).toUInt32.toUInt16.toUInt32.toInt32))), .val (.int (0 : Int32)), .val (.int (x1 &&& (15 : Int32))), .unset, .unset] at_71 rfl (rfl : 71 + 2 = 73) ?_
      refine g_aloadN X25 hx hby at_73 rfl rfl (rfl : 73 + 1 = 74) ?_
      refine g_iload X25 hx hby at_74 rfl (rfl : 74 + 2 = 76) ?_
      have o45 : ¬ ((x1 &&& (15 : Int32)) < (0 : Int32)) := (own_d0 _)
      have o46 : (x1 &&& (15 : Int32)) < (16 : Int32) := (own_d1 _)
      have f48 : Exa Z h24 b23 "java/lang/String" := (Exa.ext E24 A23)
      have f49 : Fld Z h24 b23 "java/lang/String" "coder" "B" (.int (0 : Int32)) := (Fld.ext E24 fc23)
      have f50 : Fld Z h24 b23 "java/lang/String" "value" "[B" (.ref d23) := (Fld.ext E24 fv23)
      have f51 : Arv Z h24 d23 k23 .byte (16 : Int32) [(.int (48 : Int32)), (.int (49 : Int32)), (.int (50 : Int32)), (.int (51 : Int32)), (.int (52 : Int32)), (.int (53 : Int32)), (.int (54 : Int32)), (.int (55 : Int32)), (.int (56 : Int32)), (.int (57 : Int32)), (.int (97 : Int32)), (.int (98 : Int32)), (.int (99 : Int32)), (.int (100 : Int32)), (.int (101 : Int32)), (.int (102 : Int32))] (.int (0 : Int32)) := (V23.ext E24)
      have f52 : Sta Z h24 "jdk/internal/util/Preconditions" "SIOOBE_FORMATTER" "Ljava/util/function/BiFunction;" w1 := (Sta.ext E24 (Sta.ext E23 hp1))
      have f53 : Sta Z h24 "java/lang/String" "COMPACT_STRINGS" "Z" (.int g1) := (Sta.ext E24 (Sta.ext E23 hp0))
      obtain ⟨cq47, kq47, q47a, q47b, q47c⟩ := isOf hZ eq25 f48
      obtain ⟨_, _, ⟨T47, L47, k47, n47⟩, -, X47, ⟨Lc47, hQ47, l47, y47, z47⟩, st47⟩ := X25.virtualBack hx (y := (⟨"java/lang/String", "charAt", "(I)C"⟩ : MethodName)) (z := (⟨"java/lang/String", "charAt", "(I)C"⟩ : MethodName)) hown (mvT hZ (hw _ (List.mem_of_getElem? (i := 14) rfl))) (mvT hZ (hw _ (List.mem_of_getElem? (i := 15) rfl))) (notFace_of_selects (args := #[]) (mvT hZ (hw _ (List.mem_of_getElem? (i := 17) rfl)))) (mvT hZ (hw _ (List.mem_of_getElem? (i := 17) rfl))) (mvT hZ (hw _ (List.mem_of_getElem? (i := 16) rfl))) (by decide) (backOf (W := 0) (rm_sch l Z aT hw [] b23 (x1 &&& (15 : Int32)) d23 (16 : Int32) (own_lo (x1 &&& (15 : Int32))) k23 [(.int (48 : Int32)), (.int (49 : Int32)), (.int (50 : Int32)), (.int (51 : Int32)), (.int (52 : Int32)), (.int (53 : Int32)), (.int (54 : Int32)), (.int (55 : Int32)), (.int (56 : Int32)), (.int (57 : Int32)), (.int (97 : Int32)), (.int (98 : Int32)), (.int (99 : Int32)), (.int (100 : Int32)), (.int (101 : Int32)), (.int (102 : Int32))] w1 g1 h24 n0 Z24 f48 f49 f50 f51 (own_elo (x1 &&& (15 : Int32))) f52 f53 o45 o46 hw1 hg1) hZ (hw _ (List.mem_of_getElem? (i := 18) rfl)) (hw _ (List.mem_of_getElem? (i := 1) rfl)) (by decide) (by decide)) q47a q47c (g := (mkF m 76 #[.val (.int x0), .val (.int x1), .val (.ref b23), .val (.ref b24), .val (.int ((x0 &&& (65535 : Int32)).toUInt32.toUInt16.toUInt32.toInt32)), .val (.int (F_val ((x0 &&& (65535 : Int32)).toUInt32.toUInt16.toUInt32.toInt32))), .val (.int (0 : Int32)), .val (.int (x1 &&& (15 : Int32))), .unset, .unset] [(.int (x1 &&& (15 : Int32))), (.ref b23)])) rfl (by rw [hml]; rfl) (Steps.refl _) (argsL := [(.int (x1 &&& (15 : Int32)))]) (rest := []) (lenOf pd5 rfl) rfl (by show 2 * 0 + _ ≤ _; exact Nat.le_of_eq rfl) (hb hby at_76) (fun _ _ => ⟨rfl, eq25, (by decide : 4 + 0 ≤ _), (by decide : 136 + 0 ≤ _)⟩)
      dsimp only [Pt.U, Pt.locs, Pt.cells, Pt.slots] at X47 l47 y47 z47 st47 hQ47
      subst l47 y47 z47
      obtain ⟨rfl, N47q, eq47⟩ := hQ47
      have N47 := Fr.app N25 N47q
      refine own_tr st47 ?_
      show own_Got p e below _ T47 (mkF m 79 #[.val (.int x0), .val (.int x1), .val (.ref b23), .val (.ref b24), .val (.int ((x0 &&& (65535 : Int32)).toUInt32.toUInt16.toUInt32.toInt32)), .val (.int (F_val ((x0 &&& (65535 : Int32)).toUInt32.toUInt16.toUInt32.toInt32))), .val (.int (0 : Int32)), .val (.int (x1 &&& (15 : Int32))), .unset, .unset] [(.int (F_sch (own_lo (x1 &&& (15 : Int32)))))])
      obtain ⟨_, _, ⟨T54, L54, k54, n54⟩, -, X54, ⟨Lc54, hQ54, l54, y54, z54⟩, st54⟩ := Jvm.LawKit.callS X47 hx (y := (⟨"com/example/lexsign/lexsign/util/HexDigit", "value", "(C)I"⟩ : MethodName)) hown (mvT hZ (hw _ (List.mem_of_getElem? (i := 10) rfl))) (mvT hZ (hw _ (List.mem_of_getElem? (i := 11) rfl))) (mvT hZ (hw _ (List.mem_of_getElem? (i := 12) rfl))) (mvT hZ (hw _ (List.mem_of_getElem? (i := 13) rfl))) (by decide) (backOf (W := 0) (rm_val l Z aT hw [] (F_sch (own_lo (x1 &&& (15 : Int32)))) h24 n0 Z24) hZ (hw _ (List.mem_of_getElem? (i := 13) rfl)) (hw _ (List.mem_of_getElem? (i := 12) rfl)) (by decide) (by decide)) (g := (mkF m 79 #[.val (.int x0), .val (.int x1), .val (.ref b23), .val (.ref b24), .val (.int ((x0 &&& (65535 : Int32)).toUInt32.toUInt16.toUInt32.toInt32)), .val (.int (F_val ((x0 &&& (65535 : Int32)).toUInt32.toUInt16.toUInt32.toInt32))), .val (.int (0 : Int32)), .val (.int (x1 &&& (15 : Int32))), .unset, .unset] [(.int (F_sch (own_lo (x1 &&& (15 : Int32)))))])) rfl (by rw [hml]; rfl) (argsL := [(.int (F_sch (own_lo (x1 &&& (15 : Int32)))))]) (rest := []) (lenOf pd4 rfl) rfl (by show 2 * 0 + _ ≤ _; exact Nat.le_of_eq rfl) (hb hby at_79) (fun _ _ => ⟨rfl, eq47, (by decide : 4 + 0 ≤ _), (by decide : 136 + 0 ≤ _)⟩)
      dsimp only [Pt.U, Pt.locs, Pt.cells, Pt.slots] at X54 l54 y54 z54 st54 hQ54
      subst l54 y54 z54
      obtain ⟨rfl, N54q, eq54⟩ := hQ54
      have N54 := Fr.app N47 N54q
      refine own_go st54 ?_
      show own_Got p e below _ T54 (mkF m 82 #[.val (.int x0), .val (.int x1), .val (.ref b23), .val (.ref b24), .val (.int ((x0 &&& (65535 : Int32)).toUInt32.toUInt16.toUInt32.toInt32)), .val (.int (F_val ((x0 &&& (65535 : Int32)).toUInt32.toUInt16.toUInt32.toInt32))), .val (.int (0 : Int32)), .val (.int (x1 &&& (15 : Int32))), .unset, .unset] [(.int (F_val (F_sch (own_lo (x1 &&& (15 : Int32))))))])
      refine g_iload X54 hx hby at_82 rfl (rfl : 82 + 2 = 84) ?_
      by_cases c55 : (F_val (F_sch (own_lo (x1 &&& (15 : Int32))))) = (x1 &&& (15 : Int32))
      · refine g_icF X54 hx hby at_84 (teq c55).2 (rfl : 84 + 3 = 87) ?_
        refine g_iconst X54 hx hby (1 : Int32) at_87 (by decide) (rfl : 87 + 1 = 88) ?_
        refine g_goto X54 hx hby at_88 (by decide) (pc' := 92) (by decide) ?_
        refine g_istore X54 hx hby #[.val (.int x0), .val (.int x1), .val (.ref b23), .val (.ref b24), .val (.int ((x0 &&& (65535 : Int32)).toUInt32.toUInt16.toUInt32.toInt32)), .val (.int (F_val ((x0 &&& (65535 : Int32)).toUInt32.toUInt16.toUInt32.toInt32))), .val (.int (0 : Int32)), .val (.int (x1 &&& (15 : Int32))), .val (.int (1 : Int32)), .unset] at_92 rfl (rfl : 92 + 2 = 94) ?_
        refine g_aloadN X54 hx hby at_94 rfl rfl (rfl : 94 + 1 = 95) ?_
        refine g_iload X54 hx hby at_95 rfl (rfl : 95 + 2 = 97) ?_
        obtain ⟨cq56, kq56, q56a, q56b, q56c⟩ := isOf hZ eq54 A24
        obtain ⟨_, _, ⟨T56, L56, k56, n56⟩, -, X56, ⟨Lc56, hQ56, l56, y56, z56⟩, st56⟩ := X54.virtualBack hx (y := (⟨"java/lang/String", "charAt", "(I)C"⟩ : MethodName)) (z := (⟨"java/lang/String", "charAt", "(I)C"⟩ : MethodName)) hown (mvT hZ (hw _ (List.mem_of_getElem? (i := 14) rfl))) (mvT hZ (hw _ (List.mem_of_getElem? (i := 15) rfl))) (notFace_of_selects (args := #[]) (mvT hZ (hw _ (List.mem_of_getElem? (i := 17) rfl)))) (mvT hZ (hw _ (List.mem_of_getElem? (i := 17) rfl))) (mvT hZ (hw _ (List.mem_of_getElem? (i := 16) rfl))) (by decide) (backOf (W := 0) (rm_sch l Z aT hw [] b24 (x1 &&& (15 : Int32)) d24 (16 : Int32) (own_up (x1 &&& (15 : Int32))) k24 [(.int (48 : Int32)), (.int (49 : Int32)), (.int (50 : Int32)), (.int (51 : Int32)), (.int (52 : Int32)), (.int (53 : Int32)), (.int (54 : Int32)), (.int (55 : Int32)), (.int (56 : Int32)), (.int (57 : Int32)), (.int (65 : Int32)), (.int (66 : Int32)), (.int (67 : Int32)), (.int (68 : Int32)), (.int (69 : Int32)), (.int (70 : Int32))] w1 g1 h24 n0 Z24 A24 fc24 fv24 V24 (own_eup (x1 &&& (15 : Int32))) f52 f53 o45 o46 hw1 hg1) hZ (hw _ (List.mem_of_getElem? (i := 18) rfl)) (hw _ (List.mem_of_getElem? (i := 1) rfl)) (by decide) (by decide)) q56a q56c (g := (mkF m 97 #[.val (.int x0), .val (.int x1), .val (.ref b23), .val (.ref b24), .val (.int ((x0 &&& (65535 : Int32)).toUInt32.toUInt16.toUInt32.toInt32)), .val (.int (F_val ((x0 &&& (65535 : Int32)).toUInt32.toUInt16.toUInt32.toInt32))), .val (.int (0 : Int32)), .val (.int (x1 &&& (15 : Int32))), .val (.int (1 : Int32)), .unset] [(.int (x1 &&& (15 : Int32))), (.ref b24)])) rfl (by rw [hml]; rfl) (Steps.refl _) (argsL := [(.int (x1 &&& (15 : Int32)))]) (rest := []) (lenOf pd5 rfl) rfl (by show 2 * 0 + _ ≤ _; exact Nat.le_of_eq rfl) (hb hby at_97) (fun _ _ => ⟨rfl, eq54, (by decide : 4 + 0 ≤ _), (by decide : 136 + 0 ≤ _)⟩)
        dsimp only [Pt.U, Pt.locs, Pt.cells, Pt.slots] at X56 l56 y56 z56 st56 hQ56
        subst l56 y56 z56
        obtain ⟨rfl, N56q, eq56⟩ := hQ56
        have N56 := Fr.app N54 N56q
        refine own_tr st56 ?_
        show own_Got p e below _ T56 (mkF m 100 #[.val (.int x0), .val (.int x1), .val (.ref b23), .val (.ref b24), .val (.int ((x0 &&& (65535 : Int32)).toUInt32.toUInt16.toUInt32.toInt32)), .val (.int (F_val ((x0 &&& (65535 : Int32)).toUInt32.toUInt16.toUInt32.toInt32))), .val (.int (0 : Int32)), .val (.int (x1 &&& (15 : Int32))), .val (.int (1 : Int32)), .unset] [(.int (F_sch (own_up (x1 &&& (15 : Int32)))))])
        obtain ⟨_, _, ⟨T57, L57, k57, n57⟩, -, X57, ⟨Lc57, hQ57, l57, y57, z57⟩, st57⟩ := Jvm.LawKit.callS X56 hx (y := (⟨"com/example/lexsign/lexsign/util/HexDigit", "value", "(C)I"⟩ : MethodName)) hown (mvT hZ (hw _ (List.mem_of_getElem? (i := 10) rfl))) (mvT hZ (hw _ (List.mem_of_getElem? (i := 11) rfl))) (mvT hZ (hw _ (List.mem_of_getElem? (i := 12) rfl))) (mvT hZ (hw _ (List.mem_of_getElem? (i := 13) rfl))) (by decide) (backOf (W := 0) (rm_val l Z aT hw [] (F_sch (own_up (x1 &&& (15 : Int32)))) h24 n0 Z24) hZ (hw _ (List.mem_of_getElem? (i := 13) rfl)) (hw _ (List.mem_of_getElem? (i := 12) rfl)) (by decide) (by decide)) (g := (mkF m 100 #[.val (.int x0), .val (.int x1), .val (.ref b23), .val (.ref b24), .val (.int ((x0 &&& (65535 : Int32)).toUInt32.toUInt16.toUInt32.toInt32)), .val (.int (F_val ((x0 &&& (65535 : Int32)).toUInt32.toUInt16.toUInt32.toInt32))), .val (.int (0 : Int32)), .val (.int (x1 &&& (15 : Int32))), .val (.int (1 : Int32)), .unset] [(.int (F_sch (own_up (x1 &&& (15 : Int32)))))])) rfl (by rw [hml]; rfl) (argsL := [(.int (F_sch (own_up (x1 &&& (15 : Int32)))))]) (rest := []) (lenOf pd4 rfl) rfl (by show 2 * 0 + _ ≤ _; exact Nat.le_of_eq rfl) (hb hby at_100) (fun _ _ => ⟨rfl, eq56, (by decide : 4 + 0 ≤ _), (by decide : 136 + 0 ≤ _)⟩)
        dsimp only [Pt.U, Pt.locs, Pt.cells, Pt.slots] at X57 l57 y57 z57 st57 hQ57
        subst l57 y57 z57
        obtain ⟨rfl, N57q, eq57⟩ := hQ57
        have N57 := Fr.app N56 N57q
        refine own_go st57 ?_
        show own_Got p e below _ T57 (mkF m 103 #[.val (.int x0), .val (.int x1), .val (.ref b23), .val (.ref b24), .val (.int ((x0 &&& (65535 : Int32)).toUInt32.toUInt16.toUInt32.toInt32)), .val (.int (F_val ((x0 &&& (65535 : Int32)).toUInt32.toUInt16.toUInt32.toInt32))), .val (.int (0 : Int32)), .val (.int (x1 &&& (15 : Int32))), .val (.int (1 : Int32)), .unset] [(.int (F_val (F_sch (own_up (x1 &&& (15 : Int32))))))])
        refine g_iload X57 hx hby at_103 rfl (rfl : 103 + 2 = 105) ?_
        by_cases c58 : (F_val (F_sch (own_up (x1 &&& (15 : Int32))))) = (x1 &&& (15 : Int32))
        · refine g_icF X57 hx hby at_105 (teq c58).2 (rfl : 105 + 3 = 108) ?_
          refine g_iconst X57 hx hby (1 : Int32) at_108 (by decide) (rfl : 108 + 1 = 109) ?_
          refine g_goto X57 hx hby at_109 (by decide) (pc' := 113) (by decide) ?_
          refine g_istore X57 hx hby #[.val (.int x0), .val (.int x1), .val (.ref b23), .val (.ref b24), .val (.int ((x0 &&& (65535 : Int32)).toUInt32.toUInt16.toUInt32.toInt32)), .val (.int (F_val ((x0 &&& (65535 : Int32)).toUInt32.toUInt16.toUInt32.toInt32))), .val (.int (0 : Int32)), .val (.int (x1 &&& (15 : Int32))), .val (.int (1 : Int32)), .val (.int (1 : Int32))] at_113 rfl (rfl : 113 + 2 = 115) ?_
          refine g_iload X57 hx hby at_115 rfl (rfl : 115 + 2 = 117) ?_
          refine g_ifT X57 hx hby at_117 ((if0 _ _).trans (teq (by decide : (0 : Int32) = (0 : Int32))).1) (by decide) (pc' := 134) (by decide) ?_
          refine g_iconst X57 hx hby (0 : Int32) at_134 (by decide) (rfl : 134 + 1 = 135) ?_
          refine own_retNW X57 hx hby hS hkk hZ hEL eq57 CR24 hlk (t := .boolean) hrt (by simp) at_135 (by decide) (by decide) ?_
          show Q_law Z x0 x1 g1 w1 h0 n0 _ T57.heap _
          exact ⟨(congrArg (fun z => some (Value.int z)) (by rw [F_law, if_neg c26, if_pos c44, if_pos c55, if_pos c58] <;> rfl)), N57⟩
        · refine g_icT X57 hx hby at_105 (feq c58).2 (by decide) (pc' := 112) (by decide) ?_
          refine g_iconst X57 hx hby (0 : Int32) at_112 (by decide) (rfl : 112 + 1 = 113) ?_
          refine g_istore X57 hx hby #[.val (.int x0), .val (.int x1), .val (.ref b23), .val (.ref b24), .val (.int ((x0 &&& (65535 : Int32)).toUInt32.toUInt16.toUInt32.toInt32)), .val (.int (F_val ((x0 &&& (65535 : Int32)).toUInt32.toUInt16.toUInt32.toInt32))), .val (.int (0 : Int32)), .val (.int (x1 &&& (15 : Int32))), .val (.int (1 : Int32)), .val (.int (0 : Int32))] at_113 rfl (rfl : 113 + 2 = 115) ?_
          refine g_iload X57 hx hby at_115 rfl (rfl : 115 + 2 = 117) ?_
          refine g_ifT X57 hx hby at_117 ((if0 _ _).trans (teq (by decide : (0 : Int32) = (0 : Int32))).1) (by decide) (pc' := 134) (by decide) ?_
          refine g_iconst X57 hx hby (0 : Int32) at_134 (by decide) (rfl : 134 + 1 = 135) ?_
          refine own_retNW X57 hx hby hS hkk hZ hEL eq57 CR24 hlk (t := .boolean) hrt (by simp) at_135 (by decide) (by decide) ?_
          show Q_law Z x0 x1 g1 w1 h0 n0 _ T57.heap _
          exact ⟨(congrArg (fun z => some (Value.int z)) (by rw [F_law, if_neg c26, if_pos c44, if_pos c55, if_neg c58] <;> rfl)), N57⟩
      · refine g_icT X54 hx hby at_84 (feq c55).2 (by decide) (pc' := 91) (by decide) ?_
        refine g_iconst X54 hx hby (0 : Int32) at_91 (by decide) (rfl : 91 + 1 = 92) ?_
        refine g_istore X54 hx hby #[.val (.int x0), .val (.int x1), .val (.ref b23), .val (.ref b24), .val (.int ((x0 &&& (65535 : Int32)).toUInt32.toUInt16.toUInt32.toInt32)), .val (.int (F_val ((x0 &&& (65535 : Int32)).toUInt32.toUInt16.toUInt32.toInt32))), .val (.int (0 : Int32)), .val (.int (x1 &&& (15 : Int32))), .val (.int (0 : Int32)), .unset] at_92 rfl (rfl : 92 + 2 = 94) ?_
        refine g_aloadN X54 hx hby at_94 rfl rfl (rfl : 94 + 1 = 95) ?_
        refine g_iload X54 hx hby at_95 rfl (rfl : 95 + 2 = 97) ?_
        obtain ⟨cq59, kq59, q59a, q59b, q59c⟩ := isOf hZ eq54 A24
        obtain ⟨_, _, ⟨T59, L59, k59, n59⟩, -, X59, ⟨Lc59, hQ59, l59, y59, z59⟩, st59⟩ := X54.virtualBack hx (y := (⟨"java/lang/String", "charAt", "(I)C"⟩ : MethodName)) (z := (⟨"java/lang/String", "charAt", "(I)C"⟩ : MethodName)) hown (mvT hZ (hw _ (List.mem_of_getElem? (i := 14) rfl))) (mvT hZ (hw _ (List.mem_of_getElem? (i := 15) rfl))) (notFace_of_selects (args := #[]) (mvT hZ (hw _ (List.mem_of_getElem? (i := 17) rfl)))) (mvT hZ (hw _ (List.mem_of_getElem? (i := 17) rfl))) (mvT hZ (hw _ (List.mem_of_getElem? (i := 16) rfl))) (by decide) (backOf (W := 0) (rm_sch l Z aT hw [] b24 (x1 &&& (15 : Int32)) d24 (16 : Int32) (own_up (x1 &&& (15 : Int32))) k24 [(.int (48 : Int32)), (.int (49 : Int32)), (.int (50 : Int32)), (.int (51 : Int32)), (.int (52 : Int32)), (.int (53 : Int32)), (.int (54 : Int32)), (.int (55 : Int32)), (.int (56 : Int32)), (.int (57 : Int32)), (.int (65 : Int32)), (.int (66 : Int32)), (.int (67 : Int32)), (.int (68 : Int32)), (.int (69 : Int32)), (.int (70 : Int32))] w1 g1 h24 n0 Z24 A24 fc24 fv24 V24 (own_eup (x1 &&& (15 : Int32))) f52 f53 o45 o46 hw1 hg1) hZ (hw _ (List.mem_of_getElem? (i := 18) rfl)) (hw _ (List.mem_of_getElem? (i := 1) rfl)) (by decide) (by decide)) q59a q59c (g := (mkF m 97 #[.val (.int x0), .val (.int x1), .val (.ref b23), .val (.ref b24), .val (.int ((x0 &&& (65535 : Int32)).toUInt32.toUInt16.toUInt32.toInt32)), .val (.int (F_val ((x0 &&& (65535 : Int32)).toUInt32.toUInt16.toUInt32.toInt32))), .val (.int (0 : Int32)), .val (.int (x1 &&& (15 : Int32))), .val (.int (0 : Int32)), .unset] [(.int (x1 &&& (15 : Int32))), (.ref b24)])) rfl (by rw [hml]; rfl) (Steps.refl _) (argsL := [(.int (x1 &&& (15 : Int32)))]) (rest := []) (lenOf pd5 rfl) rfl (by show 2 * 0 + _ ≤ _; exact Nat.le_of_eq rfl) (hb hby at_97) (fun _ _ => ⟨rfl, eq54, (by decide : 4 + 0 ≤ _), (by decide : 136 + 0 ≤ _)⟩)
        dsimp only [Pt.U, Pt.locs, Pt.cells, Pt.slots] at X59 l59 y59 z59 st59 hQ59
        subst l59 y59 z59
        obtain ⟨rfl, N59q, eq59⟩ := hQ59
        have N59 := Fr.app N54 N59q
        refine own_tr st59 ?_
        show own_Got p e below _ T59 (mkF m 100 #[.val (.int x0), .val (.int x1), .val (.ref b23), .val (.ref b24), .val (.int ((x0 &&& (65535 : Int32)).toUInt32.toUInt16.toUInt32.toInt32)), .val (.int (F_val ((x0 &&& (65535 : Int32)).toUInt32.toUInt16.toUInt32.toInt32))), .val (.int (0 : Int32)), .val (.int (x1 &&& (15 : Int32))), .val (.int (0 : Int32)), .unset] [(.int (F_sch (own_up (x1 &&& (15 : Int32)))))])
        obtain ⟨_, _, ⟨T60, L60, k60, n60⟩, -, X60, ⟨Lc60, hQ60, l60, y60, z60⟩, st60⟩ := Jvm.LawKit.callS X59 hx (y := (⟨"com/example/lexsign/lexsign/util/HexDigit", "value", "(C)I"⟩ : MethodName)) hown (mvT hZ (hw _ (List.mem_of_getElem? (i := 10) rfl))) (mvT hZ (hw _ (List.mem_of_getElem? (i := 11) rfl))) (mvT hZ (hw _ (List.mem_of_getElem? (i := 12) rfl))) (mvT hZ (hw _ (List.mem_of_getElem? (i := 13) rfl))) (by decide) (backOf (W := 0) (rm_val l Z aT hw [] (F_sch (own_up (x1 &&& (15 : Int32)))) h24 n0 Z24) hZ (hw _ (List.mem_of_getElem? (i := 13) rfl)) (hw _ (List.mem_of_getElem? (i := 12) rfl)) (by decide) (by decide)) (g := (mkF m 100 #[.val (.int x0), .val (.int x1), .val (.ref b23), .val (.ref b24), .val (.int ((x0 &&& (65535 : Int32)).toUInt32.toUInt16.toUInt32.toInt32)), .val (.int (F_val ((x0 &&& (65535 : Int32)).toUInt32.toUInt16.toUInt32.toInt32))), .val (.int (0 : Int32)), .val (.int (x1 &&& (15 : Int32))), .val (.int (0 : Int32)), .unset] [(.int (F_sch (own_up (x1 &&& (15 : Int32)))))])) rfl (by rw [hml]; rfl) (argsL := [(.int (F_sch (own_up (x1 &&& (15 : Int32)))))]) (rest := []) (lenOf pd4 rfl) rfl (by show 2 * 0 + _ ≤ _; exact Nat.le_of_eq rfl) (hb hby at_100) (fun _ _ => ⟨rfl, eq59, (by decide : 4 + 0 ≤ _), (by decide : 136 + 0 ≤ _)⟩)
        dsimp only [Pt.U, Pt.locs, Pt.cells, Pt.slots] at X60 l60 y60 z60 st60 hQ60
        subst l60 y60 z60
        obtain ⟨rfl, N60q, eq60⟩ := hQ60
        have N60 := Fr.app N59 N60q
        refine own_go st60 ?_
        show own_Got p e below _ T60 (mkF m 103 #[.val (.int x0), .val (.int x1), .val (.ref b23), .val (.ref b24), .val (.int ((x0 &&& (65535 : Int32)).toUInt32.toUInt16.toUInt32.toInt32)), .val (.int (F_val ((x0 &&& (65535 : Int32)).toUInt32.toUInt16.toUInt32.toInt32))), .val (.int (0 : Int32)), .val (.int (x1 &&& (15 : Int32))), .val (.int (0 : Int32)), .unset] [(.int (F_val (F_sch (own_up (x1 &&& (15 : Int32))))))])
        refine g_iload X60 hx hby at_103 rfl (rfl : 103 + 2 = 105) ?_
        by_cases c61 : (F_val (F_sch (own_up (x1 &&& (15 : Int32))))) = (x1 &&& (15 : Int32))
        · refine g_icF X60 hx hby at_105 (teq c61).2 (rfl : 105 + 3 = 108) ?_
          refine g_iconst X60 hx hby (1 : Int32) at_108 (by decide) (rfl : 108 + 1 = 109) ?_
          refine g_goto X60 hx hby at_109 (by decide) (pc' := 113) (by decide) ?_
          refine g_istore X60 hx hby #[.val (.int x0), .val (.int x1), .val (.ref b23), .val (.ref b24), .val (.int ((x0 &&& (65535 : Int32)).toUInt32.toUInt16.toUInt32.toInt32)), .val (.int (F_val ((x0 &&& (65535 : Int32)).toUInt32.toUInt16.toUInt32.toInt32))), .val (.int (0 : Int32)), .val (.int (x1 &&& (15 : Int32))), .val (.int (0 : Int32)), .val (.int (1 : Int32))] at_113 rfl (rfl : 113 + 2 = 115) ?_
          refine g_iload X60 hx hby at_115 rfl (rfl : 115 + 2 = 117) ?_
          refine g_ifT X60 hx hby at_117 ((if0 _ _).trans (teq (by decide : (0 : Int32) = (0 : Int32))).1) (by decide) (pc' := 134) (by decide) ?_
          refine g_iconst X60 hx hby (0 : Int32) at_134 (by decide) (rfl : 134 + 1 = 135) ?_
          refine own_retNW X60 hx hby hS hkk hZ hEL eq60 CR24 hlk (t := .boolean) hrt (by simp) at_135 (by decide) (by decide) ?_
          show Q_law Z x0 x1 g1 w1 h0 n0 _ T60.heap _
          exact ⟨(congrArg (fun z => some (Value.int z)) (by rw [F_law, if_neg c26, if_pos c44, if_neg c55, if_pos c61] <;> rfl)), N60⟩
        · refine g_icT X60 hx hby at_105 (feq c61).2 (by decide) (pc' := 112) (by decide) ?_
          refine g_iconst X60 hx hby (0 : Int32) at_112 (by decide) (rfl : 112 + 1 = 113) ?_
          refine g_istore X60 hx hby #[.val (.int x0), .val (.int x1), .val (.ref b23), .val (.ref b24), .val (.int ((x0 &&& (65535 : Int32)).toUInt32.toUInt16.toUInt32.toInt32)), .val (.int (F_val ((x0 &&& (65535 : Int32)).toUInt32.toUInt16.toUInt32.toInt32))), .val (.int (0 : Int32)), .val (.int (x1 &&& (15 : Int32))), .val (.int (0 : Int32)), .val (.int (0 : Int32))] at_113 rfl (rfl : 113 + 2 = 115) ?_
          refine g_iload X60 hx hby at_115 rfl (rfl : 115 + 2 = 117) ?_
          refine g_ifT X60 hx hby at_117 ((if0 _ _).trans (teq (by decide : (0 : Int32) = (0 : Int32))).1) (by decide) (pc' := 134) (by decide) ?_
          refine g_iconst X60 hx hby (0 : Int32) at_134 (by decide) (rfl : 134 + 1 = 135) ?_
          refine own_retNW X60 hx hby hS hkk hZ hEL eq60 CR24 hlk (t := .boolean) hrt (by simp) at_135 (by decide) (by decide) ?_
          show Q_law Z x0 x1 g1 w1 h0 n0 _ T60.heap _
          exact ⟨(congrArg (fun z => some (Value.int z)) (by rw [F_law, if_neg c26, if_pos c44, if_neg c55, if_neg c61] <;> rfl)), N60⟩
    · refine g_ifF X25 hx hby at_28 ((if0 _ _).trans (flt c44).1) (rfl : 28 + 3 = 31) ?_
      refine g_iload X25 hx hby at_31 rfl (rfl : 31 + 2 = 33) ?_
      refine g_bipush X25 hx hby (15 : Int32) at_33 (by decide) (rfl : 33 + 2 = 35) ?_
      by_cases c62 : (15 : Int32) < (F_val ((x0 &&& (65535 : Int32)).toUInt32.toUInt16.toUInt32.toInt32))
      · refine g_icT X25 hx hby at_35 (tlt c62).2.2.1 (by decide) (pc' := 64) (by decide) ?_
        refine g_iconst X25 hx hby (0 : Int32) at_64 (by decide) (rfl : 64 + 1 = 65) ?_
        refine g_istore X25 hx hby #[.val (.int x0), .val (.int x1), .val (.ref b23), .val (.ref b24), .val (.int ((x0 &&& (65535 : Int32)).toUInt32.toUInt16.toUInt32.toInt32)), .val (.int (F_val ((x0 &&& (65535 : Int32)).toUInt32.toUInt16.toUInt32.toInt32))), .val (.int (0 : Int32)), .unset, .unset, .unset] at_65 rfl (rfl : 65 + 2 = 67) ?_
        refine g_iloadN X25 hx hby at_67 rfl (rfl : 67 + 1 = 68) ?_
        refine g_bipush X25 hx hby (15 : Int32) at_68 (by decide) (rfl : 68 + 2 = 70) ?_
        refine g_iand X25 hx hby at_70 (rfl : 70 + 1 = 71) ?_
        refine g_istore X25 hx hby #[.val (.int x0), .val (.int x1), .val (.ref b23), .val (.ref b24), .val (.int ((x0 &&& (65535 : Int32)).toUInt32.toUInt16.toUInt32.toInt32)), .val (.int (F_val ((x0 &&& (65535 : Int32)).toUInt32.toUInt16.toUInt32.toInt32))), .val (.int (0 : Int32)), .val (.int (x1 &&& (15 : Int32))), .unset, .unset] at_71 rfl (rfl : 71 + 2 = 73) ?_
        refine g_aloadN X25 hx hby at_73 rfl rfl (rfl : 73 + 1 = 74) ?_
        refine g_iload X25 hx hby at_74 rfl (rfl : 74 + 2 = 76) ?_
        have o63 : ¬ ((x1 &&& (15 : Int32)) < (0 : Int32)) := (own_d0 _)
        have o64 : (x1 &&& (15 : Int32)) < (16 : Int32) := (own_d1 _)
        have f66 : Exa Z h24 b23 "java/lang/String" := (Exa.ext E24 A23)
        have f67 : Fld Z h24 b23 "java/lang/String" "coder" "B" (.int (0 : Int32)) := (Fld.ext E24 fc23)
        have f68 : Fld Z h24 b23 "java/lang/String" "value" "[B" (.ref d23) := (Fld.ext E24 fv23)
        have f69 : Arv Z h24 d23 k23 .byte (16 : Int32) [(.int (48 : Int32)), (.int (49 : Int32)), (.int (50 : Int32)), (.int (51 : Int32)), (.int (52 : Int32)), (.int (53 : Int32)), (.int (54 : Int32)), (.int (55 : Int32)), (.int (56 : Int32)), (.int (57 : Int32)), (.int (97 : Int32)), (.int (98 : Int32)), (.int (99 : Int32)), (.int (100 : Int32)), (.int (101 : Int32)), (.int (102 : Int32))] (.int (0 : Int32)) := (V23.ext E24)
        have f70 : Sta Z h24 "jdk/internal/util/Preconditions" "SIOOBE_FORMATTER" "Ljava/util/function/BiFunction;" w1 := (Sta.ext E24 (Sta.ext E23 hp1))
        have f71 : Sta Z h24 "java/lang/String" "COMPACT_STRINGS" "Z" (.int g1) := (Sta.ext E24 (Sta.ext E23 hp0))
        obtain ⟨cq65, kq65, q65a, q65b, q65c⟩ := isOf hZ eq25 f66
        obtain ⟨_, _, ⟨T65, L65, k65, n65⟩, -, X65, ⟨Lc65, hQ65, l65, y65, z65⟩, st65⟩ := X25.virtualBack hx (y := (⟨"java/lang/String", "charAt", "(I)C"⟩ : MethodName)) (z := (⟨"java/lang/String", "charAt", "(I)C"⟩ : MethodName)) hown (mvT hZ (hw _ (List.mem_of_getElem? (i := 14) rfl))) (mvT hZ (hw _ (List.mem_of_getElem? (i := 15) rfl))) (notFace_of_selects (args := #[]) (mvT hZ (hw _ (List.mem_of_getElem? (i := 17) rfl)))) (mvT hZ (hw _ (List.mem_of_getElem? (i := 17) rfl))) (mvT hZ (hw _ (List.mem_of_getElem? (i := 16) rfl))) (by decide) (backOf (W := 0) (rm_sch l Z aT hw [] b23 (x1 &&& (15 : Int32)) d23 (16 : Int32) (own_lo (x1 &&& (15 : Int32))) k23 [(.int (48 : Int32)), (.int (49 : Int32)), (.int (50 : Int32)), (.int (51 : Int32)), (.int (52 : Int32)), (.int (53 : Int32)), (.int (54 : Int32)), (.int (55 : Int32)), (.int (56 : Int32)), (.int (57 : Int32)), (.int (97 : Int32)), (.int (98 : Int32)), (.int (99 : Int32)), (.int (100 : Int32)), (.int (101 : Int32)), (.int (102 : Int32))] w1 g1 h24 n0 Z24 f66 f67 f68 f69 (own_elo (x1 &&& (15 : Int32))) f70 f71 o63 o64 hw1 hg1) hZ (hw _ (List.mem_of_getElem? (i := 18) rfl)) (hw _ (List.mem_of_getElem? (i := 1) rfl)) (by decide) (by decide)) q65a q65c (g := (mkF m 76 #[.val (.int x0), .val (.int x1), .val (.ref b23), .val (.ref b24), .val (.int ((x0 &&& (65535 : Int32)).toUInt32.toUInt16.toUInt32.toInt32)), .val (.int (F_val ((x0 &&& (65535 : Int32)).toUInt32.toUInt16.toUInt32.toInt32))), .val (.int (0 : Int32)), .val (.int (x1 &&& (15 : Int32))), .unset, .unset] [(.int (x1 &&& (15 : Int32))), (.ref b23)])) rfl (by rw [hml]; rfl) (Steps.refl _) (argsL := [(.int (x1 &&& (15 : Int32)))]) (rest := []) (lenOf pd5 rfl) rfl (by show 2 * 0 + _ ≤ _; exact Nat.le_of_eq rfl) (hb hby at_76) (fun _ _ => ⟨rfl, eq25, (by decide : 4 + 0 ≤ _), (by decide : 136 + 0 ≤ _)⟩)
        dsimp only [Pt.U, Pt.locs, Pt.cells, Pt.slots] at X65 l65 y65 z65 st65 hQ65
        subst l65 y65 z65
        obtain ⟨rfl, N65q, eq65⟩ := hQ65
        have N65 := Fr.app N25 N65q
        refine own_tr st65 ?_
        show own_Got p e below _ T65 (mkF m 79 #[.val (.int x0), .val (.int x1), .val (.ref b23), .val (.ref b24), .val (.int ((x0 &&& (65535 : Int32)).toUInt32.toUInt16.toUInt32.toInt32)), .val (.int (F_val ((x0 &&& (65535 : Int32)).toUInt32.toUInt16.toUInt32.toInt32))), .val (.int (0 : Int32)), .val (.int (x1 &&& (15 : Int32))), .unset, .unset] [(.int (F_sch (own_lo (x1 &&& (15 : Int32)))))])
        obtain ⟨_, _, ⟨T72, L72, k72, n72⟩, -, X72, ⟨Lc72, hQ72, l72, y72, z72⟩, st72⟩ := Jvm.LawKit.callS X65 hx (y := (⟨"com/example/lexsign/lexsign/util/HexDigit", "value", "(C)I"⟩ : MethodName)) hown (mvT hZ (hw _ (List.mem_of_getElem? (i := 10) rfl))) (mvT hZ (hw _ (List.mem_of_getElem? (i := 11) rfl))) (mvT hZ (hw _ (List.mem_of_getElem? (i := 12) rfl))) (mvT hZ (hw _ (List.mem_of_getElem? (i := 13) rfl))) (by decide) (backOf (W := 0) (rm_val l Z aT hw [] (F_sch (own_lo (x1 &&& (15 : Int32)))) h24 n0 Z24) hZ (hw _ (List.mem_of_getElem? (i := 13) rfl)) (hw _ (List.mem_of_getElem? (i := 12) rfl)) (by decide) (by decide)) (g := (mkF m 79 #[.val (.int x0), .val (.int x1), .val (.ref b23), .val (.ref b24), .val (.int ((x0 &&& (65535 : Int32)).toUInt32.toUInt16.toUInt32.toInt32)), .val (.int (F_val ((x0 &&& (65535 : Int32)).toUInt32.toUInt16.toUInt32.toInt32))), .val (.int (0 : Int32)), .val (.int (x1 &&& (15 : Int32))), .unset, .unset] [(.int (F_sch (own_lo (x1 &&& (15 : Int32)))))])) rfl (by rw [hml]; rfl) (argsL := [(.int (F_sch (own_lo (x1 &&& (15 : Int32)))))]) (rest := []) (lenOf pd4 rfl) rfl (by show 2 * 0 + _ ≤ _; exact Nat.le_of_eq rfl) (hb hby at_79) (fun _ _ => ⟨rfl, eq65, (by decide : 4 + 0 ≤ _), (by decide : 136 + 0 ≤ _)⟩)
        dsimp only [Pt.U, Pt.locs, Pt.cells, Pt.slots] at X72 l72 y72 z72 st72 hQ72
        subst l72 y72 z72
        obtain ⟨rfl, N72q, eq72⟩ := hQ72
        have N72 := Fr.app N65 N72q
        refine own_go st72 ?_
        show own_Got p e below _ T72 (mkF m 82 #[.val (.int x0), .val (.int x1), .val (.ref b23), .val (.ref b24), .val (.int ((x0 &&& (65535 : Int32)).toUInt32.toUInt16.toUInt32.toInt32)), .val (.int (F_val ((x0 &&& (65535 : Int32)).toUInt32.toUInt16.toUInt32.toInt32))), .val (.int (0 : Int32)), .val (.int (x1 &&& (15 : Int32))), .unset, .unset] [(.int (F_val (F_sch (own_lo (x1 &&& (15 : Int32))))))])
        refine g_iload X72 hx hby at_82 rfl (rfl : 82 + 2 = 84) ?_
        by_cases c73 : (F_val (F_sch (own_lo (x1 &&& (15 : Int32))))) = (x1 &&& (15 : Int32))
        · refine g_icF X72 hx hby at_84 (teq c73).2 (rfl : 84 + 3 = 87) ?_
          refine g_iconst X72 hx hby (1 : Int32) at_87 (by decide) (rfl : 87 + 1 = 88) ?_
          refine g_goto X72 hx hby at_88 (by decide) (pc' := 92) (by decide) ?_
          refine g_istore X72 hx hby #[.val (.int x0), .val (.int x1), .val (.ref b23), .val (.ref b24), .val (.int ((x0 &&& (65535 : Int32)).toUInt32.toUInt16.toUInt32.toInt32)), .val (.int (F_val ((x0 &&& (65535 : Int32)).toUInt32.toUInt16.toUInt32.toInt32))), .val (.int (0 : Int32)), .val (.int (x1 &&& (15 : Int32))), .val (.int (1 : Int32)), .unset] at_92 rfl (rfl : 92 + 2 = 94) ?_
          refine g_aloadN X72 hx hby at_94 rfl rfl (rfl : 94 + 1 = 95) ?_
          refine g_iload X72 hx hby at_95 rfl (rfl : 95 + 2 = 97) ?_
          obtain ⟨cq74, kq74, q74a, q74b, q74c⟩ := isOf hZ eq72 A24
          obtain ⟨_, _, ⟨T74, L74, k74, n74⟩, -, X74, ⟨Lc74, hQ74, l74, y74, z74⟩, st74⟩ := X72.virtualBack hx (y := (⟨"java/lang/String", "charAt", "(I)C"⟩ : MethodName)) (z := (⟨"java/lang/String", "charAt", "(I)C"⟩ : MethodName)) hown (mvT hZ (hw _ (List.mem_of_getElem? (i := 14) rfl))) (mvT hZ (hw _ (List.mem_of_getElem? (i := 15) rfl))) (notFace_of_selects (args := #[]) (mvT hZ (hw _ (List.mem_of_getElem? (i := 17) rfl)))) (mvT hZ (hw _ (List.mem_of_getElem? (i := 17) rfl))) (mvT hZ (hw _ (List.mem_of_getElem? (i := 16) rfl))) (by decide) (backOf (W := 0) (rm_sch l Z aT hw [] b24 (x1 &&& (15 : Int32)) d24 (16 : Int32) (own_up (x1 &&& (15 : Int32))) k24 [(.int (48 : Int32)), (.int (49 : Int32)), (.int (50 : Int32)), (.int (51 : Int32)), (.int (52 : Int32)), (.int (53 : Int32)), (.int (54 : Int32)), (.int (55 : Int32)), (.int (56 : Int32)), (.int (57 : Int32)), (.int (65 : Int32)), (.int (66 : Int32)), (.int (67 : Int32)), (.int (68 : Int32)), (.int (69 : Int32)), (.int (70 : Int32))] w1 g1 h24 n0 Z24 A24 fc24 fv24 V24 (own_eup (x1 &&& (15 : Int32))) f70 f71 o63 o64 hw1 hg1) hZ (hw _ (List.mem_of_getElem? (i := 18) rfl)) (hw _ (List.mem_of_getElem? (i := 1) rfl)) (by decide) (by decide)) q74a q74c (g := (mkF m 97 #[.val (.int x0), .val (.int x1), .val (.ref b23), .val (.ref b24), .val (.int ((x0 &&& (65535 : Int32)).toUInt32.toUInt16.toUInt32.toInt32)), .val (.int (F_val ((x0 &&& (65535 : Int32)).toUInt32.toUInt16.toUInt32.toInt32))), .val (.int (0 : Int32)), .val (.int (x1 &&& (15 : Int32))), .val (.int (1 : Int32)), .unset] [(.int (x1 &&& (15 : Int32))), (.ref b24)])) rfl (by rw [hml]; rfl) (Steps.refl _) (argsL := [(.int (x1 &&& (15 : Int32)))]) (rest := []) (lenOf pd5 rfl) rfl (by show 2 * 0 + _ ≤ _; exact Nat.le_of_eq rfl) (hb hby at_97) (fun _ _ => ⟨rfl, eq72, (by decide : 4 + 0 ≤ _), (by decide : 136 + 0 ≤ _)⟩)
          dsimp only [Pt.U, Pt.locs, Pt.cells, Pt.slots] at X74 l74 y74 z74 st74 hQ74
          subst l74 y74 z74
          obtain ⟨rfl, N74q, eq74⟩ := hQ74
          have N74 := Fr.app N72 N74q
          refine own_tr st74 ?_
          show own_Got p e below _ T74 (mkF m 100 #[.val (.int x0), .val (.int x1), .val (.ref b23), .val (.ref b24), .val (.int ((x0 &&& (65535 : Int32)).toUInt32.toUInt16.toUInt32.toInt32)), .val (.int (F_val ((x0 &&& (65535 : Int32)).toUInt32.toUInt16.toUInt32.toInt32))), .val (.int (0 : Int32)), .val (.int (x1 &&& (15 : Int32))), .val (.int (1 : Int32)), .unset] [(.int (F_sch (own_up (x1 &&& (15 : Int32)))))])
          obtain ⟨_, _, ⟨T75, L75, k75, n75⟩, -, X75, ⟨Lc75, hQ75, l75, y75, z75⟩, st75⟩ := Jvm.LawKit.callS X74 hx (y := (⟨"com/example/lexsign/lexsign/util/HexDigit", "value", "(C)I"⟩ : MethodName)) hown (mvT hZ (hw _ (List.mem_of_getElem? (i := 10) rfl))) (mvT hZ (hw _ (List.mem_of_getElem? (i := 11) rfl))) (mvT hZ (hw _ (List.mem_of_getElem? (i := 12) rfl))) (mvT hZ (hw _ (List.mem_of_getElem? (i := 13) rfl))) (by decide) (backOf (W := 0) (rm_val l Z aT hw [] (F_sch (own_up (x1 &&& (15 : Int32)))) h24 n0 Z24) hZ (hw _ (List.mem_of_getElem? (i := 13) rfl)) (hw _ (List.mem_of_getElem? (i := 12) rfl)) (by decide) (by decide)) (g := (mkF m 100 #[.val (.int x0), .val (.int x1), .val (.ref b23), .val (.ref b24), .val (.int ((x0 &&& (65535 : Int32)).toUInt32.toUInt16.toUInt32.toInt32)), .val (.int (F_val ((x0 &&& (65535 : Int32)).toUInt32.toUInt16.toUInt32.toInt32))), .val (.int (0 : Int32)), .val (.int (x1 &&& (15 : Int32))), .val (.int (1 : Int32)), .unset] [(.int (F_sch (own_up (x1 &&& (15 : Int32)))))])) rfl (by rw [hml]; rfl) (argsL := [(.int (F_sch (own_up (x1 &&& (15 : Int32)))))]) (rest := []) (lenOf pd4 rfl) rfl (by show 2 * 0 + _ ≤ _; exact Nat.le_of_eq rfl) (hb hby at_100) (fun _ _ => ⟨rfl, eq74, (by decide : 4 + 0 ≤ _), (by decide : 136 + 0 ≤ _)⟩)
          dsimp only [Pt.U, Pt.locs, Pt.cells, Pt.slots] at X75 l75 y75 z75 st75 hQ75
          subst l75 y75 z75
          obtain ⟨rfl, N75q, eq75⟩ := hQ75
          have N75 := Fr.app N74 N75q
          refine own_go st75 ?_
          show own_Got p e below _ T75 (mkF m 103 #[.val (.int x0), .val (.int x1), .val (.ref b23), .val (.ref b24), .val (.int ((x0 &&& (65535 : Int32)).toUInt32.toUInt16.toUInt32.toInt32)), .val (.int (F_val ((x0 &&& (65535 : Int32)).toUInt32.toUInt16.toUInt32.toInt32))), .val (.int (0 : Int32)), .val (.int (x1 &&& (15 : Int32))), .val (.int (1 : Int32)), .unset] [(.int (F_val (F_sch (own_up (x1 &&& (15 : Int32))))))])
          refine g_iload X75 hx hby at_103 rfl (rfl : 103 + 2 = 105) ?_
          by_cases c76 : (F_val (F_sch (own_up (x1 &&& (15 : Int32))))) = (x1 &&& (15 : Int32))
          · refine g_icF X75 hx hby at_105 (teq c76).2 (rfl : 105 + 3 = 108) ?_
            refine g_iconst X75 hx hby (1 : Int32) at_108 (by decide) (rfl : 108 + 1 = 109) ?_
            refine g_goto X75 hx hby at_109 (by decide) (pc' := 113) (by decide) ?_
            refine g_istore X75 hx hby #[.val (.int x0), .val (.int x1), .val (.ref b23), .val (.ref b24), .val (.int ((x0 &&& (65535 : Int32)).toUInt32.toUInt16.toUInt32.toInt32)), .val (.int (F_val ((x0 &&& (65535 : Int32)).toUInt32.toUInt16.toUInt32.toInt32))), .val (.int (0 : Int32)), .val (.int (x1 &&& (15 : Int32))), .val (.int (1 : Int32)), .val (.int (1 : Int32))] at_113 rfl (rfl : 113 + 2 = 115) ?_
            refine g_iload X75 hx hby at_115 rfl (rfl : 115 + 2 = 117) ?_
            refine g_ifT X75 hx hby at_117 ((if0 _ _).trans (teq (by decide : (0 : Int32) = (0 : Int32))).1) (by decide) (pc' := 134) (by decide) ?_
            refine g_iconst X75 hx hby (0 : Int32) at_134 (by decide) (rfl : 134 + 1 = 135) ?_
            refine own_retNW X75 hx hby hS hkk hZ hEL eq75 CR24 hlk (t := .boolean) hrt (by simp) at_135 (by decide) (by decide) ?_
            show Q_law Z x0 x1 g1 w1 h0 n0 _ T75.heap _
            exact ⟨(congrArg (fun z => some (Value.int z)) (by rw [F_law, if_neg c26, if_neg c44, if_pos c62, if_pos c73, if_pos c76] <;> rfl)), N75⟩
          · refine g_icT X75 hx hby at_105 (feq c76).2 (by decide) (pc' := 112) (by decide) ?_
            refine g_iconst X75 hx hby (0 : Int32) at_112 (by decide) (rfl : 112 + 1 = 113) ?_
            refine g_istore X75 hx hby #[.val (.int x0), .val (.int x1), .val (.ref b23), .val (.ref b24), .val (.int ((x0 &&& (65535 : Int32)).toUInt32.toUInt16.toUInt32.toInt32)), .val (.int (F_val ((x0 &&& (65535 : Int32)).toUInt32.toUInt16.toUInt32.toInt32))), .val (.int (0 : Int32)), .val (.int (x1 &&& (15 : Int32))), .val (.int (1 : Int32)), .val (.int (0 : Int32))] at_113 rfl (rfl : 113 + 2 = 115) ?_
            refine g_iload X75 hx hby at_115 rfl (rfl : 115 + 2 = 117) ?_
            refine g_ifT X75 hx hby at_117 ((if0 _ _).trans (teq (by decide : (0 : Int32) = (0 : Int32))).1) (by decide) (pc' := 134) (by decide) ?_
            refine g_iconst X75 hx hby (0 : Int32) at_134 (by decide) (rfl : 134 + 1 = 135) ?_
            refine own_retNW X75 hx hby hS hkk hZ hEL eq75 CR24 hlk (t := .boolean) hrt (by simp) at_135 (by decide) (by decide) ?_
            show Q_law Z x0 x1 g1 w1 h0 n0 _ T75.heap _
            exact ⟨(congrArg (fun z => some (Value.int z)) (by rw [F_law, if_neg c26, if_neg c44, if_pos c62, if_pos c73, if_neg c76] <;> rfl)), N75⟩
        · refine g_icT X72 hx hby at_84 (feq c73).2 (by decide) (pc' := 91) (by decide) ?_
          refine g_iconst X72 hx hby (0 : Int32) at_91 (by decide) (rfl : 91 + 1 = 92) ?_
          refine g_istore X72 hx hby #[.val (.int x0), .val (.int x1), .val (.ref b23), .val (.ref b24), .val (.int ((x0 &&& (65535 : Int32)).toUInt32.toUInt16.toUInt32.toInt32)), .val (.int (F_val ((x0 &&& (65535 : Int32)).toUInt32.toUInt16.toUInt32.toInt32))), .val (.int (0 : Int32)), .val (.int (x1 &&& (15 : Int32))), .val (.int (0 : Int32)), .unset] at_92 rfl (rfl : 92 + 2 = 94) ?_
          refine g_aloadN X72 hx hby at_94 rfl rfl (rfl : 94 + 1 = 95) ?_
          refine g_iload X72 hx hby at_95 rfl (rfl : 95 + 2 = 97) ?_
          obtain ⟨cq77, kq77, q77a, q77b, q77c⟩ := isOf hZ eq72 A24
          obtain ⟨_, _, ⟨T77, L77, k77, n77⟩, -, X77, ⟨Lc77, hQ77, l77, y77, z77⟩, st77⟩ := X72.virtualBack hx (y := (⟨"java/lang/String", "charAt", "(I)C"⟩ : MethodName)) (z := (⟨"java/lang/String", "charAt", "(I)C"⟩ : MethodName)) hown (mvT hZ (hw _ (List.mem_of_getElem? (i := 14) rfl))) (mvT hZ (hw _ (List.mem_of_getElem? (i := 15) rfl))) (notFace_of_selects (args := #[]) (mvT hZ (hw _ (List.mem_of_getElem? (i := 17) rfl)))) (mvT hZ (hw _ (List.mem_of_getElem? (i := 17) rfl))) (mvT hZ (hw _ (List.mem_of_getElem? (i := 16) rfl))) (by decide) (backOf (W := 0) (rm_sch l Z aT hw [] b24 (x1 &&& (15 : Int32)) d24 (16 : Int32) (own_up (x1 &&& (15 : Int32))) k24 [(.int (48 : Int32)), (.int (49 : Int32)), (.int (50 : Int32)), (.int (51 : Int32)), (.int (52 : Int32)), (.int (53 : Int32)), (.int (54 : Int32)), (.int (55 : Int32)), (.int (56 : Int32)), (.int (57 : Int32)), (.int (65 : Int32)), (.int (66 : Int32)), (.int (67 : Int32)), (.int (68 : Int32)), (.int (69 : Int32)), (.int (70 : Int32))] w1 g1 h24 n0 Z24 A24 fc24 fv24 V24 (own_eup (x1 &&& (15 : Int32))) f70 f71 o63 o64 hw1 hg1) hZ (hw _ (List.mem_of_getElem? (i := 18) rfl)) (hw _ (List.mem_of_getElem? (i := 1) rfl)) (by decide) (by decide)) q77a q77c (g := (mkF m 97 #[.val (.int x0), .val (.int x1), .val (.ref b23), .val (.ref b24), .val (.int ((x0 &&& (65535 : Int32)).toUInt32.toUInt16.toUInt32.toInt32)), .val (.int (F_val ((x0 &&& (65535 : Int32)).toUInt32.toUInt16.toUInt32.toInt32))), .val (.int (0 : Int32)), .val (.int (x1 &&& (15 : Int32))), .val (.int (0 : Int32)), .unset] [(.int (x1 &&& (15 : Int32))), (.ref b24)])) rfl (by rw [hml]; rfl) (Steps.refl _) (argsL := [(.int (x1 &&& (15 : Int32)))]) (rest := []) (lenOf pd5 rfl) rfl (by show 2 * 0 + _ ≤ _; exact Nat.le_of_eq rfl) (hb hby at_97) (fun _ _ => ⟨rfl, eq72, (by decide : 4 + 0 ≤ _), (by decide : 136 + 0 ≤ _)⟩)
          dsimp only [Pt.U, Pt.locs, Pt.cells, Pt.slots] at X77 l77 y77 z77 st77 hQ77
          subst l77 y77 z77
          obtain ⟨rfl, N77q, eq77⟩ := hQ77
          have N77 := Fr.app N72 N77q
          refine own_tr st77 ?_
          show own_Got p e below _ T77 (mkF m 100 #[.val (.int x0), .val (.int x1), .val (.ref b23), .val (.ref b24), .val (.int ((x0 &&& (65535 : Int32)).toUInt32.toUInt16.toUInt32.toInt32)), .val (.int (F_val ((x0 &&& (65535 : Int32)).toUInt32.toUInt16.toUInt32.toInt32))), .val (.int (0 : Int32)), .val (.int (x1 &&& (15 : Int32))), .val (.int (0 : Int32)), .unset] [(.int (F_sch (own_up (x1 &&& (15 : Int32)))))])
          obtain ⟨_, _, ⟨T78, L78, k78, n78⟩, -, X78, ⟨Lc78, hQ78, l78, y78, z78⟩, st78⟩ := Jvm.LawKit.callS X77 hx (y := (⟨"com/example/lexsign/lexsign/util/HexDigit", "value", "(C)I"⟩ : MethodName)) hown (mvT hZ (hw _ (List.mem_of_getElem? (i := 10) rfl))) (mvT hZ (hw _ (List.mem_of_getElem? (i := 11) rfl))) (mvT hZ (hw _ (List.mem_of_getElem? (i := 12) rfl))) (mvT hZ (hw _ (List.mem_of_getElem? (i := 13) rfl))) (by decide) (backOf (W := 0) (rm_val l Z aT hw [] (F_sch (own_up (x1 &&& (15 : Int32)))) h24 n0 Z24) hZ (hw _ (List.mem_of_getElem? (i := 13) rfl)) (hw _ (List.mem_of_getElem? (i := 12) rfl)) (by decide) (by decide)) (g := (mkF m 100 #[.val (.int x0), .val (.int x1), .val (.ref b23), .val (.ref b24), .val (.int ((x0 &&& (65535 : Int32)).toUInt32.toUInt16.toUInt32.toInt32)), .val (.int (F_val ((x0 &&& (65535 : Int32)).toUInt32.toUInt16.toUInt32.toInt32))), .val (.int (0 : Int32)), .val (.int (x1 &&& (15 : Int32))), .val (.int (0 : Int32)), .unset] [(.int (F_sch (own_up (x1 &&& (15 : Int32)))))])) rfl (by rw [hml]; rfl) (argsL := [(.int (F_sch (own_up (x1 &&& (15 : Int32)))))]) (rest := []) (lenOf pd4 rfl) rfl (by show 2 * 0 + _ ≤ _; exact Nat.le_of_eq rfl) (hb hby at_100) (fun _ _ => ⟨rfl, eq77, (by decide : 4 + 0 ≤ _), (by decide : 136 + 0 ≤ _)⟩)
          dsimp only [Pt.U, Pt.locs, Pt.cells, Pt.slots] at X78 l78 y78 z78 st78 hQ78
          subst l78 y78 z78
          obtain ⟨rfl, N78q, eq78⟩ := hQ78
          have N78 := Fr.app N77 N78q
          refine own_go st78 ?_
          show own_Got p e below _ T78 (mkF m 103 #[.val (.int x0), .val (.int x1), .val (.ref b23), .val (.ref b24), .val (.int ((x0 &&& (65535 : Int32)).toUInt32.toUInt16.toUInt32.toInt32)), .val (.int (F_val ((x0 &&& (65535 : Int32)).toUInt32.toUInt16.toUInt32.toInt32))), .val (.int (0 : Int32)), .val (.int (x1 &&& (15 : Int32))), .val (.int (0 : Int32)), .unset] [(.int (F_val (F_sch (own_up (x1 &&& (15 : Int32))))))])
          refine g_iload X78 hx hby at_103 rfl (rfl : 103 + 2 = 105) ?_
          by_cases c79 : (F_val (F_sch (own_up (x1 &&& (15 : Int32))))) = (x1 &&& (15 : Int32))
          · refine g_icF X78 hx hby at_105 (teq c79).2 (rfl : 105 + 3 = 108) ?_
            refine g_iconst X78 hx hby (1 : Int32) at_108 (by decide) (rfl : 108 + 1 = 109) ?_
            refine g_goto X78 hx hby at_109 (by decide) (pc' := 113) (by decide) ?_
            refine g_istore X78 hx hby #[.val (.int x0), .val (.int x1), .val (.ref b23), .val (.ref b24), .val (.int ((x0 &&& (65535 : Int32)).toUInt32.toUInt16.toUInt32.toInt32)), .val (.int (F_val ((x0 &&& (65535 : Int32)).toUInt32.toUInt16.toUInt32.toInt32))), .val (.int (0 : Int32)), .val (.int (x1 &&& (15 : Int32))), .val (.int (0 : Int32)), .val (.int (1 : Int32))] at_113 rfl (rfl : 113 + 2 = 115) ?_
            refine g_iload X78 hx hby at_115 rfl (rfl : 115 + 2 = 117) ?_
            refine g_ifT X78 hx hby at_117 ((if0 _ _).trans (teq (by decide : (0 : Int32) = (0 : Int32))).1) (by decide) (pc' := 134) (by decide) ?_
            refine g_iconst X78 hx hby (0 : Int32) at_134 (by decide) (rfl : 134 + 1 = 135) ?_
            refine own_retNW X78 hx hby hS hkk hZ hEL eq78 CR24 hlk (t := .boolean) hrt (by simp) at_135 (by decide) (by decide) ?_
            show Q_law Z x0 x1 g1 w1 h0 n0 _ T78.heap _
            exact ⟨(congrArg (fun z => some (Value.int z)) (by rw [F_law, if_neg c26, if_neg c44, if_pos c62, if_neg c73, if_pos c79] <;> rfl)), N78⟩
          · refine g_icT X78 hx hby at_105 (feq c79).2 (by decide) (pc' := 112) (by decide) ?_
            refine g_iconst X78 hx hby (0 : Int32) at_112 (by decide) (rfl : 112 + 1 = 113) ?_
            refine g_istore X78 hx hby #[.val (.int x0), .val (.int x1), .val (.ref b23), .val (.ref b24), .val (.int ((x0 &&& (65535 : Int32)).toUInt32.toUInt16.toUInt32.toInt32)), .val (.int (F_val ((x0 &&& (65535 : Int32)).toUInt32.toUInt16.toUInt32.toInt32))), .val (.int (0 : Int32)), .val (.int (x1 &&& (15 : Int32))), .val (.int (0 : Int32)), .val (.int (0 : Int32))] at_113 rfl (rfl : 113 + 2 = 115) ?_
            refine g_iload X78 hx hby at_115 rfl (rfl : 115 + 2 = 117) ?_
            refine g_ifT X78 hx hby at_117 ((if0 _ _).trans (teq (by decide : (0 : Int32) = (0 : Int32))).1) (by decide) (pc' := 134) (by decide) ?_
            refine g_iconst X78 hx hby (0 : Int32) at_134 (by decide) (rfl : 134 + 1 = 135) ?_
            refine own_retNW X78 hx hby hS hkk hZ hEL eq78 CR24 hlk (t := .boolean) hrt (by simp) at_135 (by decide) (by decide) ?_
            show Q_law Z x0 x1 g1 w1 h0 n0 _ T78.heap _
            exact ⟨(congrArg (fun z => some (Value.int z)) (by rw [F_law, if_neg c26, if_neg c44, if_pos c62, if_neg c73, if_neg c79] <;> rfl)), N78⟩
      · refine g_icF X25 hx hby at_35 (flt c62).2.2.1 (rfl : 35 + 3 = 38) ?_
        refine g_aloadN X25 hx hby at_38 rfl rfl (rfl : 38 + 1 = 39) ?_
        refine g_iload X25 hx hby at_39 rfl (rfl : 39 + 2 = 41) ?_
        have o80 : (F_val ((x0 &&& (65535 : Int32)).toUInt32.toUInt16.toUInt32.toInt32)) < (16 : Int32) := (own_lt16 c62)
        have f82 : Exa Z h24 b23 "java/lang/String" := (Exa.ext E24 A23)
        have f83 : Fld Z h24 b23 "java/lang/String" "coder" "B" (.int (0 : Int32)) := (Fld.ext E24 fc23)
        have f84 : Fld Z h24 b23 "java/lang/String" "value" "[B" (.ref d23) := (Fld.ext E24 fv23)
        have f85 : Arv Z h24 d23 k23 .byte (16 : Int32) [(.int (48 : Int32)), (.int (49 : Int32)), (.int (50 : Int32)), (.int (51 : Int32)), (.int (52 : Int32)), (.int (53 : Int32)), (.int (54 : Int32)), (.int (55 : Int32)), (.int (56 : Int32)), (.int (57 : Int32)), (.int (97 : Int32)), (.int (98 : Int32)), (.int (99 : Int32)), (.int (100 : Int32)), (.int (101 : Int32)), (.int (102 : Int32))] (.int (0 : Int32)) := (V23.ext E24)
        have f86 : Sta Z h24 "jdk/internal/util/Preconditions" "SIOOBE_FORMATTER" "Ljava/util/function/BiFunction;" w1 := (Sta.ext E24 (Sta.ext E23 hp1))
        have f87 : Sta Z h24 "java/lang/String" "COMPACT_STRINGS" "Z" (.int g1) := (Sta.ext E24 (Sta.ext E23 hp0))
        obtain ⟨cq81, kq81, q81a, q81b, q81c⟩ := isOf hZ eq25 f82
        obtain ⟨_, _, ⟨T81, L81, k81, n81⟩, -, X81, ⟨Lc81, hQ81, l81, y81, z81⟩, st81⟩ := X25.virtualBack hx (y := (⟨"java/lang/String", "charAt", "(I)C"⟩ : MethodName)) (z := (⟨"java/lang/String", "charAt", "(I)C"⟩ : MethodName)) hown (mvT hZ (hw _ (List.mem_of_getElem? (i := 14) rfl))) (mvT hZ (hw _ (List.mem_of_getElem? (i := 15) rfl))) (notFace_of_selects (args := #[]) (mvT hZ (hw _ (List.mem_of_getElem? (i := 17) rfl)))) (mvT hZ (hw _ (List.mem_of_getElem? (i := 17) rfl))) (mvT hZ (hw _ (List.mem_of_getElem? (i := 16) rfl))) (by decide) (backOf (W := 0) (rm_sch l Z aT hw [] b23 (F_val ((x0 &&& (65535 : Int32)).toUInt32.toUInt16.toUInt32.toInt32)) d23 (16 : Int32) (own_lo (F_val ((x0 &&& (65535 : Int32)).toUInt32.toUInt16.toUInt32.toInt32))) k23 [(.int (48 : Int32)), (.int (49 : Int32)), (.int (50 : Int32)), (.int (51 : Int32)), (.int (52 : Int32)), (.int (53 : Int32)), (.int (54 : Int32)), (.int (55 : Int32)), (.int (56 : Int32)), (.int (57 : Int32)), (.int (97 : Int32)), (.int (98 : Int32)), (.int (99 : Int32)), (.int (100 : Int32)), (.int (101 : Int32)), (.int (102 : Int32))] w1 g1 h24 n0 Z24 f82 f83 f84 f85 (own_elo (F_val ((x0 &&& (65535 : Int32)).toUInt32.toUInt16.toUInt32.toInt32))) f86 f87 c44 o80 hw1 hg1) hZ (hw _ (List.mem_of_getElem? (i := 18) rfl)) (hw _ (List.mem_of_getElem? (i := 1) rfl)) (by decide) (by decide)) q81a q81c (g := (mkF m 41 #[.val (.int x0), .val (.int x1), .val (.ref b23), .val (.ref b24), .val (.int ((x0 &&& (65535 : Int32)).toUInt32.toUInt16.toUInt32.toInt32)), .val (.int (F_val ((x0 &&& (65535 : Int32)).toUInt32.toUInt16.toUInt32.toInt32))), .unset, .unset, .unset, .unset] [(.int (F_val ((x0 &&& (65535 : Int32)).toUInt32.toUInt16.toUInt32.toInt32))), (.ref b23)])) rfl (by rw [hml]; rfl) (Steps.refl _) (argsL := [(.int (F_val ((x0 &&& (65535 : Int32)).toUInt32.toUInt16.toUInt32.toInt32)))]) (rest := []) (lenOf pd5 rfl) rfl (by show 2 * 0 + _ ≤ _; exact Nat.le_of_eq rfl) (hb hby at_41) (fun _ _ => ⟨rfl, eq25, (by decide : 4 + 0 ≤ _), (by decide : 136 + 0 ≤ _)⟩)
        dsimp only [Pt.U, Pt.locs, Pt.cells, Pt.slots] at X81 l81 y81 z81 st81 hQ81
        subst l81 y81 z81
        obtain ⟨rfl, N81q, eq81⟩ := hQ81
        have N81 := Fr.app N25 N81q
        refine own_tr st81 ?_
        show own_Got p e below _ T81 (mkF m 44 #[.val (.int x0), .val (.int x1), .val (.ref b23), .val (.ref b24), .val (.int ((x0 &&& (65535 : Int32)).toUInt32.toUInt16.toUInt32.toInt32)), .val (.int (F_val ((x0 &&& (65535 : Int32)).toUInt32.toUInt16.toUInt32.toInt32))), .unset, .unset, .unset, .unset] [(.int (F_sch (own_lo (F_val ((x0 &&& (65535 : Int32)).toUInt32.toUInt16.toUInt32.toInt32)))))])
        refine g_iload X81 hx hby at_44 rfl (rfl : 44 + 2 = 46) ?_
        by_cases c88 : (F_sch (own_lo (F_val ((x0 &&& (65535 : Int32)).toUInt32.toUInt16.toUInt32.toInt32)))) = ((x0 &&& (65535 : Int32)).toUInt32.toUInt16.toUInt32.toInt32)
        · refine g_icT X81 hx hby at_46 (teq c88).1 (by decide) (pc' := 60) (by decide) ?_
          refine g_iconst X81 hx hby (1 : Int32) at_60 (by decide) (rfl : 60 + 1 = 61) ?_
          refine g_goto X81 hx hby at_61 (by decide) (pc' := 65) (by decide) ?_
          refine g_istore X81 hx hby #[.val (.int x0), .val (.int x1), .val (.ref b23), .val (.ref b24), .val (.int ((x0 &&& (65535 : Int32)).toUInt32.toUInt16.toUInt32.toInt32)), .val (.int (F_val ((x0 &&& (65535 : Int32)).toUInt32.toUInt16.toUInt32.toInt32))), .val (.int (1 : Int32)), .unset, .unset, .unset] at_65 rfl (rfl : 65 + 2 = 67) ?_
          refine g_iloadN X81 hx hby at_67 rfl (rfl : 67 + 1 = 68) ?_
          refine g_bipush X81 hx hby (15 : Int32) at_68 (by decide) (rfl : 68 + 2 = 70) ?_
          refine g_iand X81 hx hby at_70 (rfl : 70 + 1 = 71) ?_
          refine g_istore X81 hx hby #[.val (.int x0), .val (.int x1), .val (.ref b23), .val (.ref b24), .val (.int ((x0 &&& (65535 : Int32)).toUInt32.toUInt16.toUInt32.toInt32)), .val (.int (F_val ((x0 &&& (65535 : Int32)).toUInt32.toUInt16.toUInt32.toInt32))), .val (.int (1 : Int32)), .val (.int (x1 &&& (15 : Int32))), .unset, .unset] at_71 rfl (rfl : 71 + 2 = 73) ?_
          refine g_aloadN X81 hx hby at_73 rfl rfl (rfl : 73 + 1 = 74) ?_
          refine g_iload X81 hx hby at_74 rfl (rfl : 74 + 2 = 76) ?_
          have o89 : ¬ ((x1 &&& (15 : Int32)) < (0 : Int32)) := (own_d0 _)
          have o90 : (x1 &&& (15 : Int32)) < (16 : Int32) := (own_d1 _)
          obtain ⟨cq91, kq91, q91a, q91b, q91c⟩ := isOf hZ eq81 f82
          obtain ⟨_, _, ⟨T91, L91, k91, n91⟩, -, X91, ⟨Lc91, hQ91, l91, y91, z91⟩, st91⟩ := X81.virtualBack hx (y := (⟨"java/lang/String", "charAt", "(I)C"⟩ : MethodName)) (z := (⟨"java/lang/String", "charAt", "(I)C"⟩ : MethodName)) hown (mvT hZ (hw _ (List.mem_of_getElem? (i := 14) rfl))) (mvT hZ (hw _ (List.mem_of_getElem? (i := 15) rfl))) (notFace_of_selects (args := #[]) (mvT hZ (hw _ (List.mem_of_getElem? (i := 17) rfl)))) (mvT hZ (hw _ (List.mem_of_getElem? (i := 17) rfl))) (mvT hZ (hw _ (List.mem_of_getElem? (i := 16) rfl))) (by decide) (backOf (W := 0) (rm_sch l Z aT hw [] b23 (x1 &&& (15 : Int32)) d23 (16 : Int32) (own_lo (x1 &&& (15 : Int32))) k23 [(.int (48 : Int32)), (.int (49 : Int32)), (.int (50 : Int32)), (.int (51 : Int32)), (.int (52 : Int32)), (.int (53 : Int32)), (.int (54 : Int32)), (.int (55 : Int32)), (.int (56 : Int32)), (.int (57 : Int32)), (.int (97 : Int32)), (.int (98 : Int32)), (.int (99 : Int32)), (.int (100 : Int32)), (.int (101 : Int32)), (.int (102 : Int32))] w1 g1 h24 n0 Z24 f82 f83 f84 f85 (own_elo (x1 &&& (15 : Int32))) f86 f87 o89 o90 hw1 hg1) hZ (hw _ (List.mem_of_getElem? (i := 18) rfl)) (hw _ (List.mem_of_getElem? (i := 1) rfl)) (by decide) (by decide)) q91a q91c (g := (mkF m 76 #[.val (.int x0), .val (.int x1), .val (.ref b23), .val (.ref b24), .val (.int ((x0 &&& (65535 : Int32)).toUInt32.toUInt16.toUInt32.toInt32)), .val (.int (F_val ((x0 &&& (65535 : Int32)).toUInt32.toUInt16.toUInt32.toInt32))), .val (.int (1 : Int32)), .val (.int (x1 &&& (15 : Int32))), .unset, .unset] [(.int (x1 &&& (15 : Int32))), (.ref b23)])) rfl (by rw [hml]; rfl) (Steps.refl _) (argsL := [(.int (x1 &&& (15 : Int32)))]) (rest := []) (lenOf pd5 rfl) rfl (by show 2 * 0 + _ ≤ _; exact Nat.le_of_eq rfl) (hb hby at_76) (fun _ _ => ⟨rfl, eq81, (by decide : 4 + 0 ≤ _), (by decide : 136 + 0 ≤ _)⟩)
          dsimp only [Pt.U, Pt.locs, Pt.cells, Pt.slots] at X91 l91 y91 z91 st91 hQ91
          subst l91 y91 z91
          obtain ⟨rfl, N91q, eq91⟩ := hQ91
          have N91 := Fr.app N81 N91q
          refine own_tr st91 ?_
          show own_Got p e below _ T91 (mkF m 79 #[.val (.int x0), .val (.int x1), .val (.ref b23), .val (.ref b24), .val (.int ((x0 &&& (65535 : Int32)).toUInt32.toUInt16.toUInt32.toInt32)), .val (.int (F_val ((x0 &&& (65535 : Int32)).toUInt32.toUInt16.toUInt32.toInt32))), .val (.int (1 : Int32)), .val (.int (x1 &&& (15 : Int32))), .unset, .unset] [(.int (F_sch (own_lo (x1 &&& (15 : Int32)))))])
          obtain ⟨_, _, ⟨T92, L92, k92, n92⟩, -, X92, ⟨Lc92, hQ92, l92, y92, z92⟩, st92⟩ := Jvm.LawKit.callS X91 hx (y := (⟨"com/example/lexsign/lexsign/util/HexDigit", "value", "(C)I"⟩ : MethodName)) hown (mvT hZ (hw _ (List.mem_of_getElem? (i := 10) rfl))) (mvT hZ (hw _ (List.mem_of_getElem? (i := 11) rfl))) (mvT hZ (hw _ (List.mem_of_getElem? (i := 12) rfl))) (mvT hZ (hw _ (List.mem_of_getElem? (i := 13) rfl))) (by decide) (backOf (W := 0) (rm_val l Z aT hw [] (F_sch (own_lo (x1 &&& (15 : Int32)))) h24 n0 Z24) hZ (hw _ (List.mem_of_getElem? (i := 13) rfl)) (hw _ (List.mem_of_getElem? (i := 12) rfl)) (by decide) (by decide)) (g := (mkF m 79 #[.val (.int x0), .val (.int x1), .val (.ref b23), .val (.ref b24), .val (.int ((x0 &&& (65535 : Int32)).toUInt32.toUInt16.toUInt32.toInt32)), .val (.int (F_val ((x0 &&& (65535 : Int32)).toUInt32.toUInt16.toUInt32.toInt32))), .val (.int (1 : Int32)), .val (.int (x1 &&& (15 : Int32))), .unset, .unset] [(.int (F_sch (own_lo (x1 &&& (15 : Int32)))))])) rfl (by rw [hml]; rfl) (argsL := [(.int (F_sch (own_lo (x1 &&& (15 : Int32)))))]) (rest := []) (lenOf pd4 rfl) rfl (by show 2 * 0 + _ ≤ _; exact Nat.le_of_eq rfl) (hb hby at_79) (fun _ _ => ⟨rfl, eq91, (by decide : 4 + 0 ≤ _), (by decide : 136 + 0 ≤ _)⟩)
          dsimp only [Pt.U, Pt.locs, Pt.cells, Pt.slots] at X92 l92 y92 z92 st92 hQ92
          subst l92 y92 z92
          obtain ⟨rfl, N92q, eq92⟩ := hQ92
          have N92 := Fr.app N91 N92q
          refine own_go st92 ?_
          show own_Got p e below _ T92 (mkF m 82 #[.val (.int x0), .val (.int x1), .val (.ref b23), .val (.ref b24), .val (.int ((x0 &&& (65535 : Int32)).toUInt32.toUInt16.toUInt32.toInt32)), .val (.int (F_val ((x0 &&& (65535 : Int32)).toUInt32.toUInt16.toUInt32.toInt32))), .val (.int (1 : Int32)), .val (.int (x1 &&& (15 : Int32))), .unset, .unset] [(.int (F_val (F_sch (own_lo (x1 &&& (15 : Int32))))))])
          refine g_iload X92 hx hby at_82 rfl (rfl : 82 + 2 = 84) ?_
          by_cases c93 : (F_val (F_sch (own_lo (x1 &&& (15 : Int32))))) = (x1 &&& (15 : Int32))
          · refine g_icF X92 hx hby at_84 (teq c93).2 (rfl : 84 + 3 = 87) ?_
            refine g_iconst X92 hx hby (1 : Int32) at_87 (by decide) (rfl : 87 + 1 = 88) ?_
            refine g_goto X92 hx hby at_88 (by decide) (pc' := 92) (by decide) ?_
            refine g_istore X92 hx hby #[.val (.int x0), .val (.int x1), .val (.ref b23), .val (.ref b24), .val (.int ((x0 &&& (65535 : Int32)).toUInt32.toUInt16.toUInt32.toInt32)), .val (.int (F_val ((x0 &&& (65535 : Int32)).toUInt32.toUInt16.toUInt32.toInt32))), .val (.int (1 : Int32)), .val (.int (x1 &&& (15 : Int32))), .val (.int (1 : Int32)), .unset] at_92 rfl (rfl : 92 + 2 = 94) ?_
            refine g_aloadN X92 hx hby at_94 rfl rfl (rfl : 94 + 1 = 95) ?_
            refine g_iload X92 hx hby at_95 rfl (rfl : 95 + 2 = 97) ?_
            obtain ⟨cq94, kq94, q94a, q94b, q94c⟩ := isOf hZ eq92 A24
            obtain ⟨_, _, ⟨T94, L94, k94, n94⟩, -, X94, ⟨Lc94, hQ94, l94, y94, z94⟩, st94⟩ := X92.virtualBack hx (y := (⟨"java/lang/String", "charAt", "(I)C"⟩ : MethodName)) (z := (⟨"java/lang/String", "charAt", "(I)C"⟩ : MethodName)) hown (mvT hZ (hw _ (List.mem_of_getElem? (i := 14) rfl))) (mvT hZ (hw _ (List.mem_of_getElem? (i := 15) rfl))) (notFace_of_selects (args := #[]) (mvT hZ (hw _ (List.mem_of_getElem? (i := 17) rfl)))) (mvT hZ (hw _ (List.mem_of_getElem? (i := 17) rfl))) (mvT hZ (hw _ (List.mem_of_getElem? (i := 16) rfl))) (by decide) (backOf (W := 0) (rm_sch l Z aT hw [] b24 (x1 &&& (15 : Int32)) d24 (16 : Int32) (own_up (x1 &&& (15 : Int32))) k24 [(.int (48 : Int32)), (.int (49 : Int32)), (.int (50 : Int32)), (.int (51 : Int32)), (.int (52 : Int32)), (.int (53 : Int32)), (.int (54 : Int32)), (.int (55 : Int32)), (.int (56 : Int32)), (.int (57 : Int32)), (.int (65 : Int32)), (.int (66 : Int32)), (.int (67 : Int32)), (.int (68 : Int32)), (.int (69 : Int32)), (.int (70 : Int32))] w1 g1 h24 n0 Z24 A24 fc24 fv24 V24 (own_eup (x1 &&& (15 : Int32))) f86 f87 o89 o90 hw1 hg1) hZ (hw _ (List.mem_of_getElem? (i := 18) rfl)) (hw _ (List.mem_of_getElem? (i := 1) rfl)) (by decide) (by decide)) q94a q94c (g := (mkF m 97 #[.val (.int x0), .val (.int x1), .val (.ref b23), .val (.ref b24), .val (.int ((x0 &&& (65535 : Int32)).toUInt32.toUInt16.toUInt32.toInt32)), .val (.int (F_val ((x0 &&& (65535 : Int32)).toUInt32.toUInt16.toUInt32.toInt32))), .val (.int (1 : Int32)), .val (.int (x1 &&& (15 : Int32))), .val (.int (1 : Int32)), .unset] [(.int (x1 &&& (15 : Int32))), (.ref b24)])) rfl (by rw [hml]; rfl) (Steps.refl _) (argsL := [(.int (x1 &&& (15 : Int32)))]) (rest := []) (lenOf pd5 rfl) rfl (by show 2 * 0 + _ ≤ _; exact Nat.le_of_eq rfl) (hb hby at_97) (fun _ _ => ⟨rfl, eq92, (by decide : 4 + 0 ≤ _), (by decide : 136 + 0 ≤ _)⟩)
            dsimp only [Pt.U, Pt.locs, Pt.cells, Pt.slots] at X94 l94 y94 z94 st94 hQ94
            subst l94 y94 z94
            obtain ⟨rfl, N94q, eq94⟩ := hQ94
            have N94 := Fr.app N92 N94q
            refine own_tr st94 ?_
            show own_Got p e below _ T94 (mkF m 100 #[.val (.int x0), .val (.int x1), .val (.ref b23), .val (.ref b24), .val (.int ((x0 &&& (65535 : Int32)).toUInt32.toUInt16.toUInt32.toInt32)), .val (.int (F_val ((x0 &&& (65535 : Int32)).toUInt32.toUInt16.toUInt32.toInt32))), .val (.int (1 : Int32)), .val (.int (x1 &&& (15 : Int32))), .val (.int (1 : Int32)), .unset] [(.int (F_sch (own_up (x1 &&& (15 : Int32)))))])
            obtain ⟨_, _, ⟨T95, L95, k95, n95⟩, -, X95, ⟨Lc95, hQ95, l95, y95, z95⟩, st95⟩ := Jvm.LawKit.callS X94 hx (y := (⟨"com/example/lexsign/lexsign/util/HexDigit", "value", "(C)I"⟩ : MethodName)) hown (mvT hZ (hw _ (List.mem_of_getElem? (i := 10) rfl))) (mvT hZ (hw _ (List.mem_of_getElem? (i := 11) rfl))) (mvT hZ (hw _ (List.mem_of_getElem? (i := 12) rfl))) (mvT hZ (hw _ (List.mem_of_getElem? (i := 13) rfl))) (by decide) (backOf (W := 0) (rm_val l Z aT hw [] (F_sch (own_up (x1 &&& (15 : Int32)))) h24 n0 Z24) hZ (hw _ (List.mem_of_getElem? (i := 13) rfl)) (hw _ (List.mem_of_getElem? (i := 12) rfl)) (by decide) (by decide)) (g := (mkF m 100 #[.val (.int x0), .val (.int x1), .val (.ref b23), .val (.ref b24), .val (.int ((x0 &&& (65535 : Int32)).toUInt32.toUInt16.toUInt32.toInt32)), .val (.int (F_val ((x0 &&& (65535 : Int32)).toUInt32.toUInt16.toUInt32.toInt32))), .val (.int (1 : Int32)), .val (.int (x1 &&& (15 : Int32))), .val (.int (1 : Int32)), .unset] [(.int (F_sch (own_up (x1 &&& (15 : Int32)))))])) rfl (by rw [hml]; rfl) (argsL := [(.int (F_sch (own_up (x1 &&& (15 : Int32)))))]) (rest := []) (lenOf pd4 rfl) rfl (by show 2 * 0 + _ ≤ _; exact Nat.le_of_eq rfl) (hb hby at_100) (fun _ _ => ⟨rfl, eq94, (by decide : 4 + 0 ≤ _), (by decide : 136 + 0 ≤ _)⟩)
            dsimp only [Pt.U, Pt.locs, Pt.cells, Pt.slots] at X95 l95 y95 z95 st95 hQ95
            subst l95 y95 z95
            obtain ⟨rfl, N95q, eq95⟩ := hQ95
            have N95 := Fr.app N94 N95q
            refine own_go st95 ?_
            show own_Got p e below _ T95 (mkF m 103 #[.val (.int x0), .val (.int x1), .val (.ref b23), .val (.ref b24), .val (.int ((x0 &&& (65535 : Int32)).toUInt32.toUInt16.toUInt32.toInt32)), .val (.int (F_val ((x0 &&& (65535 : Int32)).toUInt32.toUInt16.toUInt32.toInt32))), .val (.int (1 : Int32)), .val (.int (x1 &&& (15 : Int32))), .val (.int (1 : Int32)), .unset] [(.int (F_val (F_sch (own_up (x1 &&& (15 : Int32))))))])
            refine g_iload X95 hx hby at_103 rfl (rfl : 103 + 2 = 105) ?_
            by_cases c96 : (F_val (F_sch (own_up (x1 &&& (15 : Int32))))) = (x1 &&& (15 : Int32))
            · refine g_icF X95 hx hby at_105 (teq c96).2 (rfl : 105 + 3 = 108) ?_
              refine g_iconst X95 hx hby (1 : Int32) at_108 (by decide) (rfl : 108 + 1 = 109) ?_
              refine g_goto X95 hx hby at_109 (by decide) (pc' := 113) (by decide) ?_
              refine g_istore X95 hx hby #[.val (.int x0), .val (.int x1), .val (.ref b23), .val (.ref b24), .val (.int ((x0 &&& (65535 : Int32)).toUInt32.toUInt16.toUInt32.toInt32)), .val (.int (F_val ((x0 &&& (65535 : Int32)).toUInt32.toUInt16.toUInt32.toInt32))), .val (.int (1 : Int32)), .val (.int (x1 &&& (15 : Int32))), .val (.int (1 : Int32)), .val (.int (1 : Int32))] at_113 rfl (rfl : 113 + 2 = 115) ?_
              refine g_iload X95 hx hby at_115 rfl (rfl : 115 + 2 = 117) ?_
              refine g_ifF X95 hx hby at_117 ((if0 _ _).trans (feq (by decide : ¬ ((1 : Int32) = (0 : Int32)))).1) (rfl : 117 + 3 = 120) ?_
              refine g_iload X95 hx hby at_120 rfl (rfl : 120 + 2 = 122) ?_
              refine g_ifF X95 hx hby at_122 ((if0 _ _).trans (feq (by decide : ¬ ((1 : Int32) = (0 : Int32)))).1) (rfl : 122 + 3 = 125) ?_
              refine g_iload X95 hx hby at_125 rfl (rfl : 125 + 2 = 127) ?_
              refine g_ifF X95 hx hby at_127 ((if0 _ _).trans (feq (by decide : ¬ ((1 : Int32) = (0 : Int32)))).1) (rfl : 127 + 3 = 130) ?_
              refine g_iconst X95 hx hby (1 : Int32) at_130 (by decide) (rfl : 130 + 1 = 131) ?_
              refine g_goto X95 hx hby at_131 (by decide) (pc' := 135) (by decide) ?_
              refine own_retNW X95 hx hby hS hkk hZ hEL eq95 CR24 hlk (t := .boolean) hrt (by simp) at_135 (by decide) (by decide) ?_
              show Q_law Z x0 x1 g1 w1 h0 n0 _ T95.heap _
              exact ⟨(congrArg (fun z => some (Value.int z)) (by rw [F_law, if_neg c26, if_neg c44, if_neg c62, if_pos c88, if_pos c93, if_pos c96] <;> rfl)), N95⟩
            · refine g_icT X95 hx hby at_105 (feq c96).2 (by decide) (pc' := 112) (by decide) ?_
              refine g_iconst X95 hx hby (0 : Int32) at_112 (by decide) (rfl : 112 + 1 = 113) ?_
              refine g_istore X95 hx hby #[.val (.int x0), .val (.int x1), .val (.ref b23), .val (.ref b24), .val (.int ((x0 &&& (65535 : Int32)).toUInt32.toUInt16.toUInt32.toInt32)), .val (.int (F_val ((x0 &&& (65535 : Int32)).toUInt32.toUInt16.toUInt32.toInt32))), .val (.int (1 : Int32)), .val (.int (x1 &&& (15 : Int32))), .val (.int (1 : Int32)), .val (.int (0 : Int32))] at_113 rfl (rfl : 113 + 2 = 115) ?_
              refine g_iload X95 hx hby at_115 rfl (rfl : 115 + 2 = 117) ?_
              refine g_ifF X95 hx hby at_117 ((if0 _ _).trans (feq (by decide : ¬ ((1 : Int32) = (0 : Int32)))).1) (rfl : 117 + 3 = 120) ?_
              refine g_iload X95 hx hby at_120 rfl (rfl : 120 + 2 = 122) ?_
              refine g_ifF X95 hx hby at_122 ((if0 _ _).trans (feq (by decide : ¬ ((1 : Int32) = (0 : Int32)))).1) (rfl : 122 + 3 = 125) ?_
              refine g_iload X95 hx hby at_125 rfl (rfl : 125 + 2 = 127) ?_
              refine g_ifT X95 hx hby at_127 ((if0 _ _).trans (teq (by decide : (0 : Int32) = (0 : Int32))).1) (by decide) (pc' := 134) (by decide) ?_
              refine g_iconst X95 hx hby (0 : Int32) at_134 (by decide) (rfl : 134 + 1 = 135) ?_
              refine own_retNW X95 hx hby hS hkk hZ hEL eq95 CR24 hlk (t := .boolean) hrt (by simp) at_135 (by decide) (by decide) ?_
              show Q_law Z x0 x1 g1 w1 h0 n0 _ T95.heap _
              exact ⟨(congrArg (fun z => some (Value.int z)) (by rw [F_law, if_neg c26, if_neg c44, if_neg c62, if_pos c88, if_pos c93, if_neg c96] <;> rfl)), N95⟩
          · refine g_icT X92 hx hby at_84 (feq c93).2 (by decide) (pc' := 91) (by decide) ?_
            refine g_iconst X92 hx hby (0 : Int32) at_91 (by decide) (rfl : 91 + 1 = 92) ?_
            refine g_istore X92 hx hby #[.val (.int x0), .val (.int x1), .val (.ref b23), .val (.ref b24), .val (.int ((x0 &&& (65535 : Int32)).toUInt32.toUInt16.toUInt32.toInt32)), .val (.int (F_val ((x0 &&& (65535 : Int32)).toUInt32.toUInt16.toUInt32.toInt32))), .val (.int (1 : Int32)), .val (.int (x1 &&& (15 : Int32))), .val (.int (0 : Int32)), .unset] at_92 rfl (rfl : 92 + 2 = 94) ?_
            refine g_aloadN X92 hx hby at_94 rfl rfl (rfl : 94 + 1 = 95) ?_
            refine g_iload X92 hx hby at_95 rfl (rfl : 95 + 2 = 97) ?_
            obtain ⟨cq97, kq97, q97a, q97b, q97c⟩ := isOf hZ eq92 A24
            obtain ⟨_, _, ⟨T97, L97, k97, n97⟩, -, X97, ⟨Lc97, hQ97, l97, y97, z97⟩, st97⟩ := X92.virtualBack hx (y := (⟨"java/lang/String", "charAt", "(I)C"⟩ : MethodName)) (z := (⟨"java/lang/String", "charAt", "(I)C"⟩ : MethodName)) hown (mvT hZ (hw _ (List.mem_of_getElem? (i := 14) rfl))) (mvT hZ (hw _ (List.mem_of_getElem? (i := 15) rfl))) (notFace_of_selects (args := #[]) (mvT hZ (hw _ (List.mem_of_getElem? (i := 17) rfl)))) (mvT hZ (hw _ (List.mem_of_getElem? (i := 17) rfl))) (mvT hZ (hw _ (List.mem_of_getElem? (i := 16) rfl))) (by decide) (backOf (W := 0) (rm_sch l Z aT hw [] b24 (x1 &&& (15 : Int32)) d24 (16 : Int32) (own_up (x1 &&& (15 : Int32))) k24 [(.int (48 : Int32)), (.int (49 : Int32)), (.int (50 : Int32)), (.int (51 : Int32)), (.int (52 : Int32)), (.int (53 : Int32)), (.int (54 : Int32)), (.int (55 : Int32)), (.int (56 : Int32)), (.int (57 : Int32)), (.int (65 : Int32)), (.int (66 : Int32)), (.int (67 : Int32)), (.int (68 : Int32)), (.int (69 : Int32)), (.int (70 : Int32))] w1 g1 h24 n0 Z24 A24 fc24 fv24 V24 (own_eup (x1 &&& (15 : Int32))) f86 f87 o89 o90 hw1 hg1) hZ (hw _ (List.mem_of_getElem? (i := 18) rfl)) (hw _ (List.mem_of_getElem? (i := 1) rfl)) (by decide) (by decide)) q97a q97c (g := (mkF m 97 #[.val (.int x0), .val (.int x1), .val (.ref b23), .val (.ref b24), .val (.int ((x0 &&& (65535 : Int32)).toUInt32.toUInt16.toUInt32.toInt32)), .val (.int (F_val ((x0 &&& (65535 : Int32)).toUInt32.toUInt16.toUInt32.toInt32))), .val (.int (1 : Int32)), .val (.int (x1 &&& (15 : Int32))), .val (.int (0 : Int32)), .unset] [(.int (x1 &&& (15 : Int32))), (.ref b24)])) rfl (by rw [hml]; rfl) (Steps.refl _) (argsL := [(.int (x1 &&& (15 : Int32)))]) (rest := []) (lenOf pd5 rfl) rfl (by show 2 * 0 + _ ≤ _; exact Nat.le_of_eq rfl) (hb hby at_97) (fun _ _ => ⟨rfl, eq92, (by decide : 4 + 0 ≤ _), (by decide : 136 + 0 ≤ _)⟩)
            dsimp only [Pt.U, Pt.locs, Pt.cells, Pt.slots] at X97 l97 y97 z97 st97 hQ97
            subst l97 y97 z97
            obtain ⟨rfl, N97q, eq97⟩ := hQ97
            have N97 := Fr.app N92 N97q
            refine own_tr st97 ?_
            show own_Got p e below _ T97 (mkF m 100 #[.val (.int x0), .val (.int x1), .val (.ref b23), .val (.ref b24), .val (.int ((x0 &&& (65535 : Int32)).toUInt32.toUInt16.toUInt32.toInt32)), .val (.int (F_val ((x0 &&& (65535 : Int32)).toUInt32.toUInt16.toUInt32.toInt32))), .val (.int (1 : Int32)), .val (.int (x1 &&& (15 : Int32))), .val (.int (0 : Int32)), .unset] [(.int (F_sch (own_up (x1 &&& (15 : Int32)))))])
            obtain ⟨_, _, ⟨T98, L98, k98, n98⟩, -, X98, ⟨Lc98, hQ98, l98, y98, z98⟩, st98⟩ := Jvm.LawKit.callS X97 hx (y := (⟨"com/example/lexsign/lexsign/util/HexDigit", "value", "(C)I"⟩ : MethodName)) hown (mvT hZ (hw _ (List.mem_of_getElem? (i := 10) rfl))) (mvT hZ (hw _ (List.mem_of_getElem? (i := 11) rfl))) (mvT hZ (hw _ (List.mem_of_getElem? (i := 12) rfl))) (mvT hZ (hw _ (List.mem_of_getElem? (i := 13) rfl))) (by decide) (backOf (W := 0) (rm_val l Z aT hw [] (F_sch (own_up (x1 &&& (15 : Int32)))) h24 n0 Z24) hZ (hw _ (List.mem_of_getElem? (i := 13) rfl)) (hw _ (List.mem_of_getElem? (i := 12) rfl)) (by decide) (by decide)) (g := (mkF m 100 #[.val (.int x0), .val (.int x1), .val (.ref b23), .val (.ref b24), .val (.int ((x0 &&& (65535 : Int32)).toUInt32.toUInt16.toUInt32.toInt32)), .val (.int (F_val ((x0 &&& (65535 : Int32)).toUInt32.toUInt16.toUInt32.toInt32))), .val (.int (1 : Int32)), .val (.int (x1 &&& (15 : Int32))), .val (.int (0 : Int32)), .unset] [(.int (F_sch (own_up (x1 &&& (15 : Int32)))))])) rfl (by rw [hml]; rfl) (argsL := [(.int (F_sch (own_up (x1 &&& (15 : Int32)))))]) (rest := []) (lenOf pd4 rfl) rfl (by show 2 * 0 + _ ≤ _; exact Nat.le_of_eq rfl) (hb hby at_100) (fun _ _ => ⟨rfl, eq97, (by decide : 4 + 0 ≤ _), (by decide : 136 + 0 ≤ _)⟩)
            dsimp only [Pt.U, Pt.locs, Pt.cells, Pt.slots] at X98 l98 y98 z98 st98 hQ98
            subst l98 y98 z98
            obtain ⟨rfl, N98q, eq98⟩ := hQ98
            have N98 := Fr.app N97 N98q
            refine own_go st98 ?_
            show own_Got p e below _ T98 (mkF m 103 #[.val (.int x0), .val (.int x1), .val (.ref b23), .val (.ref b24), .val (.int ((x0 &&& (65535 : Int32)).toUInt32.toUInt16.toUInt32.toInt32)), .val (.int (F_val ((x0 &&& (65535 : Int32)).toUInt32.toUInt16.toUInt32.toInt32))), .val (.int (1 : Int32)), .val (.int (x1 &&& (15 : Int32))), .val (.int (0 : Int32)), .unset] [(.int (F_val (F_sch (own_up (x1 &&& (15 : Int32))))))])
            refine g_iload X98 hx hby at_103 rfl (rfl : 103 + 2 = 105) ?_
            by_cases c99 : (F_val (F_sch (own_up (x1 &&& (15 : Int32))))) = (x1 &&& (15 : Int32))
            · refine g_icF X98 hx hby at_105 (teq c99).2 (rfl : 105 + 3 = 108) ?_
              refine g_iconst X98 hx hby (1 : Int32) at_108 (by decide) (rfl : 108 + 1 = 109) ?_
              refine g_goto X98 hx hby at_109 (by decide) (pc' := 113) (by decide) ?_
              refine g_istore X98 hx hby #[.val (.int x0), .val (.int x1), .val (.ref b23), .val (.ref b24), .val (.int ((x0 &&& (65535 : Int32)).toUInt32.toUInt16.toUInt32.toInt32)), .val (.int (F_val ((x0 &&& (65535 : Int32)).toUInt32.toUInt16.toUInt32.toInt32))), .val (.int (1 : Int32)), .val (.int (x1 &&& (15 : Int32))), .val (.int (0 : Int32)), .val (.int (1 : Int32))] at_113 rfl (rfl : 113 + 2 = 115) ?_
              refine g_iload X98 hx hby at_115 rfl (rfl : 115 + 2 = 117) ?_
              refine g_ifF X98 hx hby at_117 ((if0 _ _).trans (feq (by decide : ¬ ((1 : Int32) = (0 : Int32)))).1) (rfl : 117 + 3 = 120) ?_
              refine g_iload X98 hx hby at_120 rfl (rfl : 120 + 2 = 122) ?_
              refine g_ifT X98 hx hby at_122 ((if0 _ _).trans (teq (by decide : (0 : Int32) = (0 : Int32))).1) (by decide) (pc' := 134) (by decide) ?_
              refine g_iconst X98 hx hby (0 : Int32) at_134 (by decide) (rfl : 134 + 1 = 135) ?_
              refine own_retNW X98 hx hby hS hkk hZ hEL eq98 CR24 hlk (t := .boolean) hrt (by simp) at_135 (by decide) (by decide) ?_
              show Q_law Z x0 x1 g1 w1 h0 n0 _ T98.heap _
              exact ⟨(congrArg (fun z => some (Value.int z)) (by rw [F_law, if_neg c26, if_neg c44, if_neg c62, if_pos c88, if_neg c93, if_pos c99] <;> rfl)), N98⟩
            · refine g_icT X98 hx hby at_105 (feq c99).2 (by decide) (pc' := 112) (by decide) ?_
              refine g_iconst X98 hx hby (0 : Int32) at_112 (by decide) (rfl : 112 + 1 = 113) ?_
              refine g_istore X98 hx hby #[.val (.int x0), .val (.int x1), .val (.ref b23), .val (.ref b24), .val (.int ((x0 &&& (65535 : Int32)).toUInt32.toUInt16.toUInt32.toInt32)), .val (.int (F_val ((x0 &&& (65535 : Int32)).toUInt32.toUInt16.toUInt32.toInt32))), .val (.int (1 : Int32)), .val (.int (x1 &&& (15 : Int32))), .val (.int (0 : Int32)), .val (.int (0 : Int32))] at_113 rfl (rfl : 113 + 2 = 115) ?_
              refine g_iload X98 hx hby at_115 rfl (rfl : 115 + 2 = 117) ?_
              refine g_ifF X98 hx hby at_117 ((if0 _ _).trans (feq (by decide : ¬ ((1 : Int32) = (0 : Int32)))).1) (rfl : 117 + 3 = 120) ?_
              refine g_iload X98 hx hby at_120 rfl (rfl : 120 + 2 = 122) ?_
              refine g_ifT X98 hx hby at_122 ((if0 _ _).trans (teq (by decide : (0 : Int32) = (0 : Int32))).1) (by decide) (pc' := 134) (by decide) ?_
              refine g_iconst X98 hx hby (0 : Int32) at_134 (by decide) (rfl : 134 + 1 = 135) ?_
              refine own_retNW X98 hx hby hS hkk hZ hEL eq98 CR24 hlk (t := .boolean) hrt (by simp) at_135 (by decide) (by decide) ?_
              show Q_law Z x0 x1 g1 w1 h0 n0 _ T98.heap _
              exact ⟨(congrArg (fun z => some (Value.int z)) (by rw [F_law, if_neg c26, if_neg c44, if_neg c62, if_pos c88, if_neg c93, if_neg c99] <;> rfl)), N98⟩
        · refine g_icF X81 hx hby at_46 (feq c88).1 (rfl : 46 + 3 = 49) ?_
          refine g_aloadN X81 hx hby at_49 rfl rfl (rfl : 49 + 1 = 50) ?_
          refine g_iload X81 hx hby at_50 rfl (rfl : 50 + 2 = 52) ?_
          obtain ⟨cq100, kq100, q100a, q100b, q100c⟩ := isOf hZ eq81 A24
          obtain ⟨_, _, ⟨T100, L100, k100, n100⟩, -, X100, ⟨Lc100, hQ100, l100, y100, z100⟩, st100⟩ := X81.virtualBack hx (y := (⟨"java/lang/String", "charAt", "(I)C"⟩ : MethodName)) (z := (⟨"java/lang/String", "charAt", "(I)C"⟩ : MethodName)) hown (mvT hZ (hw _ (List.mem_of_getElem? (i := 14) rfl))) (mvT hZ (hw _ (List.mem_of_getElem? (i := 15) rfl))) (notFace_of_selects (args := #[]) (mvT hZ (hw _ (List.mem_of_getElem? (i := 17) rfl)))) (mvT hZ (hw _ (List.mem_of_getElem? (i := 17) rfl))) (mvT hZ (hw _ (List.mem_of_getElem? (i := 16) rfl))) (by decide) (backOf (W := 0) (rm_sch l Z aT hw [] b24 (F_val ((x0 &&& (65535 : Int32)).toUInt32.toUInt16.toUInt32.toInt32)) d24 (16 : Int32) (own_up (F_val ((x0 &&& (65535 : Int32)).toUInt32.toUInt16.toUInt32.toInt32))) k24 [(.int (48 : Int32)), (.int (49 : Int32)), (.int (50 : Int32)), (.int (51 : Int32)), (.int (52 : Int32)), (.int (53 : Int32)), (.int (54 : Int32)), (.int (55 : Int32)), (.int (56 : Int32)), (.int (57 : Int32)), (.int (65 : Int32)), (.int (66 : Int32)), (.int (67 : Int32)), (.int (68 : Int32)), (.int (69 : Int32)), (.int (70 : Int32))] w1 g1 h24 n0 Z24 A24 fc24 fv24 V24 (own_eup (F_val ((x0 &&& (65535 : Int32)).toUInt32.toUInt16.toUInt32.toInt32))) f86 f87 c44 o80 hw1 hg1) hZ (hw _ (List.mem_of_getElem? (i := 18) rfl)) (hw _ (List.mem_of_getElem? (i := 1) rfl)) (by decide) (by decide)) q100a q100c (g := (mkF m 52 #[.val (.int x0), .val (.int x1), .val (.ref b23), .val (.ref b24), .val (.int ((x0 &&& (65535 : Int32)).toUInt32.toUInt16.toUInt32.toInt32)), .val (.int (F_val ((x0 &&& (65535 : Int32)).toUInt32.toUInt16.toUInt32.toInt32))), .unset, .unset, .unset, .unset] [(.int (F_val ((x0 &&& (65535 : Int32)).toUInt32.toUInt16.toUInt32.toInt32))), (.ref b24)])) rfl (by rw [hml]; rfl) (Steps.refl _) (argsL := [(.int (F_val ((x0 &&& (65535 : Int32)).toUInt32.toUInt16.toUInt32.toInt32)))]) (rest := []) (lenOf pd5 rfl) rfl (by show 2 * 0 + _ ≤ _; exact Nat.le_of_eq rfl) (hb hby at_52) (fun _ _ => ⟨rfl, eq81, (by decide : 4 + 0 ≤ _), (by decide : 136 + 0 ≤ _)⟩)
          dsimp only [Pt.U, Pt.locs, Pt.cells, Pt.slots] at X100 l100 y100 z100 st100 hQ100
          subst l100 y100 z100
          obtain ⟨rfl, N100q, eq100⟩ := hQ100
          have N100 := Fr.app N81 N100q
          refine own_tr st100 ?_
          show own_Got p e below _ T100 (mkF m 55 #[.val (.int x0), .val (.int x1), .val (.ref b23), .val (.ref b24), .val (.int ((x0 &&& (65535 : Int32)).toUInt32.toUInt16.toUInt32.toInt32)), .val (.int (F_val ((x0 &&& (65535 : Int32)).toUInt32.toUInt16.toUInt32.toInt32))), .unset, .unset, .unset, .unset] [(.int (F_sch (own_up (F_val ((x0 &&& (65535 : Int32)).toUInt32.toUInt16.toUInt32.toInt32)))))])
          refine g_iload X100 hx hby at_55 rfl (rfl : 55 + 2 = 57) ?_
          by_cases c101 : (F_sch (own_up (F_val ((x0 &&& (65535 : Int32)).toUInt32.toUInt16.toUInt32.toInt32)))) = ((x0 &&& (65535 : Int32)).toUInt32.toUInt16.toUInt32.toInt32)
          · refine g_icF X100 hx hby at_57 (teq c101).2 (rfl : 57 + 3 = 60) ?_
            refine g_iconst X100 hx hby (1 : Int32) at_60 (by decide) (rfl : 60 + 1 = 61) ?_
            refine g_goto X100 hx hby at_61 (by decide) (pc' := 65) (by decide) ?_
            refine g_istore X100 hx hby #[.val (.int x0), .val (.int x1), .val (.ref b23), .val (.ref b24), .val (.int ((x0 &&& (65535 : Int32)).toUInt32.toUInt16.toUInt32.toInt32)), .val (.int (F_val ((x0 &&& (65535 : Int32)).toUInt32.toUInt16.toUInt32.toInt32))), .val (.int (1 : Int32)), .unset, .unset, .unset] at_65 rfl (rfl : 65 + 2 = 67) ?_
            refine g_iloadN X100 hx hby at_67 rfl (rfl : 67 + 1 = 68) ?_
            refine g_bipush X100 hx hby (15 : Int32) at_68 (by decide) (rfl : 68 + 2 = 70) ?_
            refine g_iand X100 hx hby at_70 (rfl : 70 + 1 = 71) ?_
            refine g_istore X100 hx hby #[.val (.int x0), .val (.int x1), .val (.ref b23), .val (.ref b24), .val (.int ((x0 &&& (65535 : Int32)).toUInt32.toUInt16.toUInt32.toInt32)), .val (.int (F_val ((x0 &&& (65535 : Int32)).toUInt32.toUInt16.toUInt32.toInt32))), .val (.int (1 : Int32)), .val (.int (x1 &&& (15 : Int32))), .unset, .unset] at_71 rfl (rfl : 71 + 2 = 73) ?_
            refine g_aloadN X100 hx hby at_73 rfl rfl (rfl : 73 + 1 = 74) ?_
            refine g_iload X100 hx hby at_74 rfl (rfl : 74 + 2 = 76) ?_
            have o102 : ¬ ((x1 &&& (15 : Int32)) < (0 : Int32)) := (own_d0 _)
            have o103 : (x1 &&& (15 : Int32)) < (16 : Int32) := (own_d1 _)
            obtain ⟨cq104, kq104, q104a, q104b, q104c⟩ := isOf hZ eq100 f82
            obtain ⟨_, _, ⟨T104, L104, k104, n104⟩, -, X104, ⟨Lc104, hQ104, l104, y104, z104⟩, st104⟩ := X100.virtualBack hx (y := (⟨"java/lang/String", "charAt", "(I)C"⟩ : MethodName)) (z := (⟨"java/lang/String", "charAt", "(I)C"⟩ : MethodName)) hown (mvT hZ (hw _ (List.mem_of_getElem? (i := 14) rfl))) (mvT hZ (hw _ (List.mem_of_getElem? (i := 15) rfl))) (notFace_of_selects (args := #[]) (mvT hZ (hw _ (List.mem_of_getElem? (i := 17) rfl)))) (mvT hZ (hw _ (List.mem_of_getElem? (i := 17) rfl))) (mvT hZ (hw _ (List.mem_of_getElem? (i := 16) rfl))) (by decide) (backOf (W := 0) (rm_sch l Z aT hw [] b23 (x1 &&& (15 : Int32)) d23 (16 : Int32) (own_lo (x1 &&& (15 : Int32))) k23 [(.int (48 : Int32)), (.int (49 : Int32)), (.int (50 : Int32)), (.int (51 : Int32)), (.int (52 : Int32)), (.int (53 : Int32)), (.int (54 : Int32)), (.int (55 : Int32)), (.int (56 : Int32)), (.int (57 : Int32)), (.int (97 : Int32)), (.int (98 : Int32)), (.int (99 : Int32)), (.int (100 : Int32)), (.int (101 : Int32)), (.int (102 : Int32))] w1 g1 h24 n0 Z24 f82 f83 f84 f85 (own_elo (x1 &&& (15 : Int32))) f86 f87 o102 o103 hw1 hg1) hZ (hw _ (List.mem_of_getElem? (i := 18) rfl)) (hw _ (List.mem_of_getElem? (i := 1) rfl)) (by decide) (by decide)) q104a q104c (g := (mkF m 76 #[.val (.int x0), .val (.int x1), .val (.ref b23), .val (.ref b24), .val (.int ((x0 &&& (65535 : Int32)).toUInt32.toUInt16.toUInt32.toInt32)), .val (.int (F_val ((x0 &&& (65535 : Int32)).toUInt32.toUInt16.toUInt32.toInt32))), .val (.int (1 : Int32)), .val (.int (x1 &&& (15 : Int32))), .unset, .unset] [(.int (x1 &&& (15 : Int32))), (.ref b23)])) rfl (by rw [hml]; rfl) (Steps.refl _) (argsL := [(.int (x1 &&& (15 : Int32)))]) (rest := []) (lenOf pd5 rfl) rfl (by show 2 * 0 + _ ≤ _; exact Nat.le_of_eq rfl) (hb hby at_76) (fun _ _ => ⟨rfl, eq100, (by decide : 4 + 0 ≤ _), (by decide : 136 + 0 ≤ _)⟩)
            dsimp only [Pt.U, Pt.locs, Pt.cells, Pt.slots] at X104 l104 y104 z104 st104 hQ104
            subst l104 y104 z104
            obtain ⟨rfl, N104q, eq104⟩ := hQ104
            have N104 := Fr.app N100 N104q
            refine own_tr st104 ?_
            show own_Got p e below _ T104 (mkF m 79 #[.val (.int x0), .val (.int x1), .val (.ref b23), .val (.ref b24), .val (.int ((x0 &&& (65535 : Int32)).toUInt32.toUInt16.toUInt32.toInt32)), .val (.int (F_val ((x0 &&& (65535 : Int32)).toUInt32.toUInt16.toUInt32.toInt32))), .val (.int (1 : Int32)), .val (.int (x1 &&& (15 : Int32))), .unset, .unset] [(.int (F_sch (own_lo (x1 &&& (15 : Int32)))))])
            obtain ⟨_, _, ⟨T105, L105, k105, n105⟩, -, X105, ⟨Lc105, hQ105, l105, y105, z105⟩, st105⟩ := Jvm.LawKit.callS X104 hx (y := (⟨"com/example/lexsign/lexsign/util/HexDigit", "value", "(C)I"⟩ : MethodName)) hown (mvT hZ (hw _ (List.mem_of_getElem? (i := 10) rfl))) (mvT hZ (hw _ (List.mem_of_getElem? (i := 11) rfl))) (mvT hZ (hw _ (List.mem_of_getElem? (i := 12) rfl))) (mvT hZ (hw _ (List.mem_of_getElem? (i := 13) rfl))) (by decide) (backOf (W := 0) (rm_val l Z aT hw [] (F_sch (own_lo (x1 &&& (15 : Int32)))) h24 n0 Z24) hZ (hw _ (List.mem_of_getElem? (i := 13) rfl)) (hw _ (List.mem_of_getElem? (i := 12) rfl)) (by decide) (by decide)) (g := (mkF m 79 #[.val (.int x0), .val (.int x1), .val (.ref b23), .val (.ref b24), .val (.int ((x0 &&& (65535 : Int32)).toUInt32.toUInt16.toUInt32.toInt32)), .val (.int (F_val ((x0 &&& (65535 : Int32)).toUInt32.toUInt16.toUInt32.toInt32))), .val (.int (1 : Int32)), .val (.int (x1 &&& (15 : Int32))), .unset, .unset] [(.int (F_sch (own_lo (x1 &&& (15 : Int32)))))])) rfl (by rw [hml]; rfl) (argsL := [(.int (F_sch (own_lo (x1 &&& (15 : Int32)))))]) (rest := []) (lenOf pd4 rfl) rfl (by show 2 * 0 + _ ≤ _; exact Nat.le_of_eq rfl) (hb hby at_79) (fun _ _ => ⟨rfl, eq104, (by decide : 4 + 0 ≤ _), (by decide : 136 + 0 ≤ _)⟩)
            dsimp only [Pt.U, Pt.locs, Pt.cells, Pt.slots] at X105 l105 y105 z105 st105 hQ105
            subst l105 y105 z105
            obtain ⟨rfl, N105q, eq105⟩ := hQ105
            have N105 := Fr.app N104 N105q
            refine own_go st105 ?_
            show own_Got p e below _ T105 (mkF m 82 #[.val (.int x0), .val (.int x1), .val (.ref b23), .val (.ref b24), .val (.int ((x0 &&& (65535 : Int32)).toUInt32.toUInt16.toUInt32.toInt32)), .val (.int (F_val ((x0 &&& (65535 : Int32)).toUInt32.toUInt16.toUInt32.toInt32))), .val (.int (1 : Int32)), .val (.int (x1 &&& (15 : Int32))), .unset, .unset] [(.int (F_val (F_sch (own_lo (x1 &&& (15 : Int32))))))])
            refine g_iload X105 hx hby at_82 rfl (rfl : 82 + 2 = 84) ?_
            by_cases c106 : (F_val (F_sch (own_lo (x1 &&& (15 : Int32))))) = (x1 &&& (15 : Int32))
            · refine g_icF X105 hx hby at_84 (teq c106).2 (rfl : 84 + 3 = 87) ?_
              refine g_iconst X105 hx hby (1 : Int32) at_87 (by decide) (rfl : 87 + 1 = 88) ?_
              refine g_goto X105 hx hby at_88 (by decide) (pc' := 92) (by decide) ?_
              refine g_istore X105 hx hby #[.val (.int x0), .val (.int x1), .val (.ref b23), .val (.ref b24), .val (.int ((x0 &&& (65535 : Int32)).toUInt32.toUInt16.toUInt32.toInt32)), .val (.int (F_val ((x0 &&& (65535 : Int32)).toUInt32.toUInt16.toUInt32.toInt32))), .val (.int (1 : Int32)), .val (.int (x1 &&& (15 : Int32))), .val (.int (1 : Int32)), .unset] at_92 rfl (rfl : 92 + 2 = 94) ?_
              refine g_aloadN X105 hx hby at_94 rfl rfl (rfl : 94 + 1 = 95) ?_
              refine g_iload X105 hx hby at_95 rfl (rfl : 95 + 2 = 97) ?_
              obtain ⟨cq107, kq107, q107a, q107b, q107c⟩ := isOf hZ eq105 A24
              obtain ⟨_, _, ⟨T107, L107, k107, n107⟩, -, X107, ⟨Lc107, hQ107, l107, y107, z107⟩, st107⟩ := X105.virtualBack hx (y := (⟨"java/lang/String", "charAt", "(I)C"⟩ : MethodName)) (z := (⟨"java/lang/String", "charAt", "(I)C"⟩ : MethodName)) hown (mvT hZ (hw _ (List.mem_of_getElem? (i := 14) rfl))) (mvT hZ (hw _ (List.mem_of_getElem? (i := 15) rfl))) (notFace_of_selects (args := #[]) (mvT hZ (hw _ (List.mem_of_getElem? (i := 17) rfl)))) (mvT hZ (hw _ (List.mem_of_getElem? (i := 17) rfl))) (mvT hZ (hw _ (List.mem_of_getElem? (i := 16) rfl))) (by decide) (backOf (W := 0) (rm_sch l Z aT hw [] b24 (x1 &&& (15 : Int32)) d24 (16 : Int32) (own_up (x1 &&& (15 : Int32))) k24 [(.int (48 : Int32)), (.int (49 : Int32)), (.int (50 : Int32)), (.int (51 : Int32)), (.int (52 : Int32)), (.int (53 : Int32)), (.int (54 : Int32)), (.int (55 : Int32)), (.int (56 : Int32)), (.int (57 : Int32)), (.int (65 : Int32)), (.int (66 : Int32)), (.int (67 : Int32)), (.int (68 : Int32)), (.int (69 : Int32)), (.int (70 : Int32))] w1 g1 h24 n0 Z24 A24 fc24 fv24 V24 (own_eup (x1 &&& (15 : Int32))) f86 f87 o102 o103 hw1 hg1) hZ (hw _ (List.mem_of_getElem? (i := 18) rfl)) (hw _ (List.mem_of_getElem? (i := 1) rfl)) (by decide) (by decide)) q107a q107c (g := (mkF m 97 #[.val (.int x0), .val (.int x1), .val (.ref b23), .val (.ref b24), .val (.int ((x0 &&& (65535 : Int32)).toUInt32.toUInt16.toUInt32.toInt32)), .val (.int (F_val ((x0 &&& (65535 : Int32)).toUInt32.toUInt16.toUInt32.toInt32))), .val (.int (1 : Int32)), .val (.int (x1 &&& (15 : Int32))), .val (.int (1 : Int32)), .unset] [(.int (x1 &&& (15 : Int32))), (.ref b24)])) rfl (by rw [hml]; rfl) (Steps.refl _) (argsL := [(.int (x1 &&& (15 : Int32)))]) (rest := []) (lenOf pd5 rfl) rfl (by show 2 * 0 + _ ≤ _; exact Nat.le_of_eq rfl) (hb hby at_97) (fun _ _ => ⟨rfl, eq105, (by decide : 4 + 0 ≤ _), (by decide : 136 + 0 ≤ _)⟩)
              dsimp only [Pt.U, Pt.locs, Pt.cells, Pt.slots] at X107 l107 y107 z107 st107 hQ107
              subst l107 y107 z107
              obtain ⟨rfl, N107q, eq107⟩ := hQ107
              have N107 := Fr.app N105 N107q
              refine own_tr st107 ?_
              show own_Got p e below _ T107 (mkF m 100 #[.val (.int x0), .val (.int x1), .val (.ref b23), .val (.ref b24), .val (.int ((x0 &&& (65535 : Int32)).toUInt32.toUInt16.toUInt32.toInt32)), .val (.int (F_val ((x0 &&& (65535 : Int32)).toUInt32.toUInt16.toUInt32.toInt32))), .val (.int (1 : Int32)), .val (.int (x1 &&& (15 : Int32))), .val (.int (1 : Int32)), .unset] [(.int (F_sch (own_up (x1 &&& (15 : Int32)))))])
              obtain ⟨_, _, ⟨T108, L108, k108, n108⟩, -, X108, ⟨Lc108, hQ108, l108, y108, z108⟩, st108⟩ := Jvm.LawKit.callS X107 hx (y := (⟨"com/example/lexsign/lexsign/util/HexDigit", "value", "(C)I"⟩ : MethodName)) hown (mvT hZ (hw _ (List.mem_of_getElem? (i := 10) rfl))) (mvT hZ (hw _ (List.mem_of_getElem? (i := 11) rfl))) (mvT hZ (hw _ (List.mem_of_getElem? (i := 12) rfl))) (mvT hZ (hw _ (List.mem_of_getElem? (i := 13) rfl))) (by decide) (backOf (W := 0) (rm_val l Z aT hw [] (F_sch (own_up (x1 &&& (15 : Int32)))) h24 n0 Z24) hZ (hw _ (List.mem_of_getElem? (i := 13) rfl)) (hw _ (List.mem_of_getElem? (i := 12) rfl)) (by decide) (by decide)) (g := (mkF m 100 #[.val (.int x0), .val (.int x1), .val (.ref b23), .val (.ref b24), .val (.int ((x0 &&& (65535 : Int32)).toUInt32.toUInt16.toUInt32.toInt32)), .val (.int (F_val ((x0 &&& (65535 : Int32)).toUInt32.toUInt16.toUInt32.toInt32))), .val (.int (1 : Int32)), .val (.int (x1 &&& (15 : Int32))), .val (.int (1 : Int32)), .unset] [(.int (F_sch (own_up (x1 &&& (15 : Int32)))))])) rfl (by rw [hml]; rfl) (argsL := [(.int (F_sch (own_up (x1 &&& (15 : Int32)))))]) (rest := []) (lenOf pd4 rfl) rfl (by show 2 * 0 + _ ≤ _; exact Nat.le_of_eq rfl) (hb hby at_100) (fun _ _ => ⟨rfl, eq107, (by decide : 4 + 0 ≤ _), (by decide : 136 + 0 ≤ _)⟩)
              dsimp only [Pt.U, Pt.locs, Pt.cells, Pt.slots] at X108 l108 y108 z108 st108 hQ108
              subst l108 y108 z108
              obtain ⟨rfl, N108q, eq108⟩ := hQ108
              have N108 := Fr.app N107 N108q
              refine own_go st108 ?_
              show own_Got p e below _ T108 (mkF m 103 #[.val (.int x0), .val (.int x1), .val (.ref b23), .val (.ref b24), .val (.int ((x0 &&& (65535 : Int32)).toUInt32.toUInt16.toUInt32.toInt32)), .val (.int (F_val ((x0 &&& (65535 : Int32)).toUInt32.toUInt16.toUInt32.toInt32))), .val (.int (1 : Int32)), .val (.int (x1 &&& (15 : Int32))), .val (.int (1 : Int32)), .unset] [(.int (F_val (F_sch (own_up (x1 &&& (15 : Int32))))))])
              refine g_iload X108 hx hby at_103 rfl (rfl : 103 + 2 = 105) ?_
              by_cases c109 : (F_val (F_sch (own_up (x1 &&& (15 : Int32))))) = (x1 &&& (15 : Int32))
              · refine g_icF X108 hx hby at_105 (teq c109).2 (rfl : 105 + 3 = 108) ?_
                refine g_iconst X108 hx hby (1 : Int32) at_108 (by decide) (rfl : 108 + 1 = 109) ?_
                refine g_goto X108 hx hby at_109 (by decide) (pc' := 113) (by decide) ?_
                refine g_istore X108 hx hby #[.val (.int x0), .val (.int x1), .val (.ref b23), .val (.ref b24), .val (.int ((x0 &&& (65535 : Int32)).toUInt32.toUInt16.toUInt32.toInt32)), .val (.int (F_val ((x0 &&& (65535 : Int32)).toUInt32.toUInt16.toUInt32.toInt32))), .val (.int (1 : Int32)), .val (.int (x1 &&& (15 : Int32))), .val (.int (1 : Int32)), .val (.int (1 : Int32))] at_113 rfl (rfl : 113 + 2 = 115) ?_
                refine g_iload X108 hx hby at_115 rfl (rfl : 115 + 2 = 117) ?_
                refine g_ifF X108 hx hby at_117 ((if0 _ _).trans (feq (by decide : ¬ ((1 : Int32) = (0 : Int32)))).1) (rfl : 117 + 3 = 120) ?_
                refine g_iload X108 hx hby at_120 rfl (rfl : 120 + 2 = 122) ?_
                refine g_ifF X108 hx hby at_122 ((if0 _ _).trans (feq (by decide : ¬ ((1 : Int32) = (0 : Int32)))).1) (rfl : 122 + 3 = 125) ?_
                refine g_iload X108 hx hby at_125 rfl (rfl : 125 + 2 = 127) ?_
                refine g_ifF X108 hx hby at_127 ((if0 _ _).trans (feq (by decide : ¬ ((1 : Int32) = (0 : Int32)))).1) (rfl : 127 + 3 = 130) ?_
                refine g_iconst X108 hx hby (1 : Int32) at_130 (by decide) (rfl : 130 + 1 = 131) ?_
                refine g_goto X108 hx hby at_131 (by decide) (pc' := 135) (by decide) ?_
                refine own_retNW X108 hx hby hS hkk hZ hEL eq108 CR24 hlk (t := .boolean) hrt (by simp) at_135 (by decide) (by decide) ?_
                show Q_law Z x0 x1 g1 w1 h0 n0 _ T108.heap _
                exact ⟨(congrArg (fun z => some (Value.int z)) (by rw [F_law, if_neg c26, if_neg c44, if_neg c62, if_neg c88, if_pos c101, if_pos c106, if_pos c109] <;> rfl)), N108⟩
              · refine g_icT X108 hx hby at_105 (feq c109).2 (by decide) (pc' := 112) (by decide) ?_
                refine g_iconst X108 hx hby (0 : Int32) at_112 (by decide) (rfl : 112 + 1 = 113) ?_
                refine g_istore X108 hx hby #[.val (.int x0), .val (.int x1), .val (.ref b23), .val (.ref b24), .val (.int ((x0 &&& (65535 : Int32)).toUInt32.toUInt16.toUInt32.toInt32)), .val (.int (F_val ((x0 &&& (65535 : Int32)).toUInt32.toUInt16.toUInt32.toInt32))), .val (.int (1 : Int32)), .val (.int (x1 &&& (15 : Int32))), .val (.int (1 : Int32)), .val (.int (0 : Int32))] at_113 rfl (rfl : 113 + 2 = 115) ?_
                refine g_iload X108 hx hby at_115 rfl (rfl : 115 + 2 = 117) ?_
                refine g_ifF X108 hx hby at_117 ((if0 _ _).trans (feq (by decide : ¬ ((1 : Int32) = (0 : Int32)))).1) (rfl : 117 + 3 = 120) ?_
                refine g_iload X108 hx hby at_120 rfl (rfl : 120 + 2 = 122) ?_
                refine g_ifF X108 hx hby at_122 ((if0 _ _).trans (feq (by decide : ¬ ((1 : Int32) = (0 : Int32)))).1) (rfl : 122 + 3 = 125) ?_
                refine g_iload X108 hx hby at_125 rfl (rfl : 125 + 2 = 127) ?_
                refine g_ifT X108 hx hby at_127 ((if0 _ _).trans (teq (by decide : (0 : Int32) = (0 : Int32))).1) (by decide) (pc' := 134) (by decide) ?_
                refine g_iconst X108 hx hby (0 : Int32) at_134 (by decide) (rfl : 134 + 1 = 135) ?_
                refine own_retNW X108 hx hby hS hkk hZ hEL eq108 CR24 hlk (t := .boolean) hrt (by simp) at_135 (by decide) (by decide) ?_
                show Q_law Z x0 x1 g1 w1 h0 n0 _ T108.heap _
                exact ⟨(congrArg (fun z => some (Value.int z)) (by rw [F_law, if_neg c26, if_neg c44, if_neg c62, if_neg c88, if_pos c101, if_pos c106, if_neg c109] <;> rfl)), N108⟩
            · refine g_icT X105 hx hby at_84 (feq c106).2 (by decide) (pc' := 91) (by decide) ?_
              refine g_iconst X105 hx hby (0 : Int32) at_91 (by decide) (rfl : 91 + 1 = 92) ?_
              refine g_istore X105 hx hby #[.val (.int x0), .val (.int x1), .val (.ref b23), .val (.ref b24), .val (.int ((x0 &&& (65535 : Int32)).toUInt32.toUInt16.toUInt32.toInt32)), .val (.int (F_val ((x0 &&& (65535 : Int32)).toUInt32.toUInt16.toUInt32.toInt32))), .val (.int (1 : Int32)), .val (.int (x1 &&& (15 : Int32))), .val (.int (0 : Int32)), .unset] at_92 rfl (rfl : 92 + 2 = 94) ?_
              refine g_aloadN X105 hx hby at_94 rfl rfl (rfl : 94 + 1 = 95) ?_
              refine g_iload X105 hx hby at_95 rfl (rfl : 95 + 2 = 97) ?_
              obtain ⟨cq110, kq110, q110a, q110b, q110c⟩ := isOf hZ eq105 A24
              obtain ⟨_, _, ⟨T110, L110, k110, n110⟩, -, X110, ⟨Lc110, hQ110, l110, y110, z110⟩, st110⟩ := X105.virtualBack hx (y := (⟨"java/lang/String", "charAt", "(I)C"⟩ : MethodName)) (z := (⟨"java/lang/String", "charAt", "(I)C"⟩ : MethodName)) hown (mvT hZ (hw _ (List.mem_of_getElem? (i := 14) rfl))) (mvT hZ (hw _ (List.mem_of_getElem? (i := 15) rfl))) (notFace_of_selects (args := #[]) (mvT hZ (hw _ (List.mem_of_getElem? (i := 17) rfl)))) (mvT hZ (hw _ (List.mem_of_getElem? (i := 17) rfl))) (mvT hZ (hw _ (List.mem_of_getElem? (i := 16) rfl))) (by decide) (backOf (W := 0) (rm_sch l Z aT hw [] b24 (x1 &&& (15 : Int32)) d24 (16 : Int32) (own_up (x1 &&& (15 : Int32))) k24 [(.int (48 : Int32)), (.int (49 : Int32)), (.int (50 : Int32)), (.int (51 : Int32)), (.int (52 : Int32)), (.int (53 : Int32)), (.int (54 : Int32)), (.int (55 : Int32)), (.int (56 : Int32)), (.int (57 : Int32)), (.int (65 : Int32)), (.int (66 : Int32)), (.int (67 : Int32)), (.int (68 : Int32)), (.int (69 : Int32)), (.int (70 : Int32))] w1 g1 h24 n0 Z24 A24 fc24 fv24 V24 (own_eup (x1 &&& (15 : Int32))) f86 f87 o102 o103 hw1 hg1) hZ (hw _ (List.mem_of_getElem? (i := 18) rfl)) (hw _ (List.mem_of_getElem? (i := 1) rfl)) (by decide) (by decide)) q110a q110c (g := (mkF m 97 #[.val (.int x0), .val (.int x1), .val (.ref b23), .val (.ref b24), .val (.int ((x0 &&& (65535 : Int32)).toUInt32.toUInt16.toUInt32.toInt32)), .val (.int (F_val ((x0 &&& (65535 : Int32)).toUInt32.toUInt16.toUInt32.toInt32))), .val (.int (1 : Int32)), .val (.int (x1 &&& (15 : Int32))), .val (.int (0 : Int32)), .unset] [(.int (x1 &&& (15 : Int32))), (.ref b24)])) rfl (by rw [hml]; rfl) (Steps.refl _) (argsL := [(.int (x1 &&& (15 : Int32)))]) (rest := []) (lenOf pd5 rfl) rfl (by show 2 * 0 + _ ≤ _; exact Nat.le_of_eq rfl) (hb hby at_97) (fun _ _ => ⟨rfl, eq105, (by decide : 4 + 0 ≤ _), (by decide : 136 + 0 ≤ _)⟩)
              dsimp only [Pt.U, Pt.locs, Pt.cells, Pt.slots] at X110 l110 y110 z110 st110 hQ110
              subst l110 y110 z110
              obtain ⟨rfl, N110q, eq110⟩ := hQ110
              have N110 := Fr.app N105 N110q
              refine own_tr st110 ?_
              show own_Got p e below _ T110 (mkF m 100 #[.val (.int x0), .val (.int x1), .val (.ref b23), .val (.ref b24), .val (.int ((x0 &&& (65535 : Int32)).toUInt32.toUInt16.toUInt32.toInt32)), .val (.int (F_val ((x0 &&& (65535 : Int32)).toUInt32.toUInt16.toUInt32.toInt32))), .val (.int (1 : Int32)), .val (.int (x1 &&& (15 : Int32))), .val (.int (0 : Int32)), .unset] [(.int (F_sch (own_up (x1 &&& (15 : Int32)))))])
              obtain ⟨_, _, ⟨T111, L111, k111, n111⟩, -, X111, ⟨Lc111, hQ111, l111, y111, z111⟩, st111⟩ := Jvm.LawKit.callS X110 hx (y := (⟨"com/example/lexsign/lexsign/util/HexDigit", "value", "(C)I"⟩ : MethodName)) hown (mvT hZ (hw _ (List.mem_of_getElem? (i := 10) rfl))) (mvT hZ (hw _ (List.mem_of_getElem? (i := 11) rfl))) (mvT hZ (hw _ (List.mem_of_getElem? (i := 12) rfl))) (mvT hZ (hw _ (List.mem_of_getElem? (i := 13) rfl))) (by decide) (backOf (W := 0) (rm_val l Z aT hw [] (F_sch (own_up (x1 &&& (15 : Int32)))) h24 n0 Z24) hZ (hw _ (List.mem_of_getElem? (i := 13) rfl)) (hw _ (List.mem_of_getElem? (i := 12) rfl)) (by decide) (by decide)) (g := (mkF m 100 #[.val (.int x0), .val (.int x1), .val (.ref b23), .val (.ref b24), .val (.int ((x0 &&& (65535 : Int32)).toUInt32.toUInt16.toUInt32.toInt32)), .val (.int (F_val ((x0 &&& (65535 : Int32)).toUInt32.toUInt16.toUInt32.toInt32))), .val (.int (1 : Int32)), .val (.int (x1 &&& (15 : Int32))), .val (.int (0 : Int32)), .unset] [(.int (F_sch (own_up (x1 &&& (15 : Int32)))))])) rfl (by rw [hml]; rfl) (argsL := [(.int (F_sch (own_up (x1 &&& (15 : Int32)))))]) (rest := []) (lenOf pd4 rfl) rfl (by show 2 * 0 + _ ≤ _; exact Nat.le_of_eq rfl) (hb hby at_100) (fun _ _ => ⟨rfl, eq110, (by decide : 4 + 0 ≤ _), (by decide : 136 + 0 ≤ _)⟩)
              dsimp only [Pt.U, Pt.locs, Pt.cells, Pt.slots] at X111 l111 y111 z111 st111 hQ111
              subst l111 y111 z111
              obtain ⟨rfl, N111q, eq111⟩ := hQ111
              have N111 := Fr.app N110 N111q
              refine own_go st111 ?_
              show own_Got p e below _ T111 (mkF m 103 #[.val (.int x0), .val (.int x1), .val (.ref b23), .val (.ref b24), .val (.int ((x0 &&& (65535 : Int32)).toUInt32.toUInt16.toUInt32.toInt32)), .val (.int (F_val ((x0 &&& (65535 : Int32)).toUInt32.toUInt16.toUInt32.toInt32))), .val (.int (1 : Int32)), .val (.int (x1 &&& (15 : Int32))), .val (.int (0 : Int32)), .unset] [(.int (F_val (F_sch (own_up (x1 &&& (15 : Int32))))))])
              refine g_iload X111 hx hby at_103 rfl (rfl : 103 + 2 = 105) ?_
              by_cases c112 : (F_val (F_sch (own_up (x1 &&& (15 : Int32))))) = (x1 &&& (15 : Int32))
              · refine g_icF X111 hx hby at_105 (teq c112).2 (rfl : 105 + 3 = 108) ?_
                refine g_iconst X111 hx hby (1 : Int32) at_108 (by decide) (rfl : 108 + 1 = 109) ?_
                refine g_goto X111 hx hby at_109 (by decide) (pc' := 113) (by decide) ?_
                refine g_istore X111 hx hby #[.val (.int x0), .val (.int x1), .val (.ref b23), .val (.ref b24), .val (.int ((x0 &&& (65535 : Int32)).toUInt32.toUInt16.toUInt32.toInt32)), .val (.int (F_val ((x0 &&& (65535 : Int32)).toUInt32.toUInt16.toUInt32.toInt32))), .val (.int (1 : Int32)), .val (.int (x1 &&& (15 : Int32))), .val (.int (0 : Int32)), .val (.int (1 : Int32))] at_113 rfl (rfl : 113 + 2 = 115) ?_
                refine g_iload X111 hx hby at_115 rfl (rfl : 115 + 2 = 117) ?_
                refine g_ifF X111 hx hby at_117 ((if0 _ _).trans (feq (by decide : ¬ ((1 : Int32) = (0 : Int32)))).1) (rfl : 117 + 3 = 120) ?_
                refine g_iload X111 hx hby at_120 rfl (rfl : 120 + 2 = 122) ?_
                refine g_ifT X111 hx hby at_122 ((if0 _ _).trans (teq (by decide : (0 : Int32) = (0 : Int32))).1) (by decide) (pc' := 134) (by decide) ?_
                refine g_iconst X111 hx hby (0 : Int32) at_134 (by decide) (rfl : 134 + 1 = 135) ?_
                refine own_retNW X111 hx hby hS hkk hZ hEL eq111 CR24 hlk (t := .boolean) hrt (by simp) at_135 (by decide) (by decide) ?_
                show Q_law Z x0 x1 g1 w1 h0 n0 _ T111.heap _
                exact ⟨(congrArg (fun z => some (Value.int z)) (by rw [F_law, if_neg c26, if_neg c44, if_neg c62, if_neg c88, if_pos c101, if_neg c106, if_pos c112] <;> rfl)), N111⟩
              · refine g_icT X111 hx hby at_105 (feq c112).2 (by decide) (pc' := 112) (by decide) ?_
                refine g_iconst X111 hx hby (0 : Int32) at_112 (by decide) (rfl : 112 + 1 = 113) ?_
                refine g_istore X111 hx hby #[.val (.int x0), .val (.int x1), .val (.ref b23), .val (.ref b24), .val (.int ((x0 &&& (65535 : Int32)).toUInt32.toUInt16.toUInt32.toInt32)), .val (.int (F_val ((x0 &&& (65535 : Int32)).toUInt32.toUInt16.toUInt32.toInt32))), .val (.int (1 : Int32)), .val (.int (x1 &&& (15 : Int32))), .val (.int (0 : Int32)), .val (.int (0 : Int32))] at_113 rfl (rfl : 113 + 2 = 115) ?_
                refine g_iload X111 hx hby at_115 rfl (rfl : 115 + 2 = 117) ?_
                refine g_ifF X111 hx hby at_117 ((if0 _ _).trans (feq (by decide : ¬ ((1 : Int32) = (0 : Int32)))).1) (rfl : 117 + 3 = 120) ?_
                refine g_iload X111 hx hby at_120 rfl (rfl : 120 + 2 = 122) ?_
                refine g_ifT X111 hx hby at_122 ((if0 _ _).trans (teq (by decide : (0 : Int32) = (0 : Int32))).1) (by decide) (pc' := 134) (by decide) ?_
                refine g_iconst X111 hx hby (0 : Int32) at_134 (by decide) (rfl : 134 + 1 = 135) ?_
                refine own_retNW X111 hx hby hS hkk hZ hEL eq111 CR24 hlk (t := .boolean) hrt (by simp) at_135 (by decide) (by decide) ?_
                show Q_law Z x0 x1 g1 w1 h0 n0 _ T111.heap _
                exact ⟨(congrArg (fun z => some (Value.int z)) (by rw [F_law, if_neg c26, if_neg c44, if_neg c62, if_neg c88, if_pos c101, if_neg c106, if_neg c112] <;> rfl)), N111⟩
          · refine g_icT X100 hx hby at_57 (feq c101).2 (by decide) (pc' := 64) (by decide) ?_
            refine g_iconst X100 hx hby (0 : Int32) at_64 (by decide) (rfl : 64 + 1 = 65) ?_
            refine g_istore X100 hx hby #[.val (.int x0), .val (.int x1), .val (.ref b23), .val (.ref b24), .val (.int ((x0 &&& (65535 : Int32)).toUInt32.toUInt16.toUInt32.toInt32)), .val (.int (F_val ((x0 &&& (65535 : Int32)).toUInt32.toUInt16.toUInt32.toInt32))), .val (.int (0 : Int32)), .unset, .unset, .unset] at_65 rfl (rfl : 65 + 2 = 67) ?_
            refine g_iloadN X100 hx hby at_67 rfl (rfl : 67 + 1 = 68) ?_
            refine g_bipush X100 hx hby (15 : Int32) at_68 (by decide) (rfl : 68 + 2 = 70) ?_
            refine g_iand X100 hx hby at_70 (rfl : 70 + 1 = 71) ?_
            refine g_istore X100 hx hby #[.val (.int x0), .val (.int x1), .val (.ref b23), .val (.ref b24), .val (.int ((x0 &&& (65535 : Int32)).toUInt32.toUInt16.toUInt32.toInt32)), .val (.int (F_val ((x0 &&& (65535 : Int32)).toUInt32.toUInt16.toUInt32.toInt32))), .val (.int (0 : Int32)), .val (.int (x1 &&& (15 : Int32))), .unset, .unset] at_71 rfl (rfl : 71 + 2 = 73) ?_
            refine g_aloadN X100 hx hby at_73 rfl rfl (rfl : 73 + 1 = 74) ?_
            refine g_iload X100 hx hby at_74 rfl (rfl : 74 + 2 = 76) ?_
            have o113 : ¬ ((x1 &&& (15 : Int32)) < (0 : Int32)) := (own_d0 _)
            have o114 : (x1 &&& (15 : Int32)) < (16 : Int32) := (own_d1 _)
            obtain ⟨cq115, kq115, q115a, q115b, q115c⟩ := isOf hZ eq100 f82
            obtain ⟨_, _, ⟨T115, L115, k115, n115⟩, -, X115, ⟨Lc115, hQ115, l115, y115, z115⟩, st115⟩ := X100.virtualBack hx (y := (⟨"java/lang/String", "charAt", "(I)C"⟩ : MethodName)) (z := (⟨"java/lang/String", "charAt", "(I)C"⟩ : MethodName)) hown (mvT hZ (hw _ (List.mem_of_getElem? (i := 14) rfl))) (mvT hZ (hw _ (List.mem_of_getElem? (i := 15) rfl))) (notFace_of_selects (args := #[]) (mvT hZ (hw _ (List.mem_of_getElem? (i := 17) rfl)))) (mvT hZ (hw _ (List.mem_of_getElem? (i := 17) rfl))) (mvT hZ (hw _ (List.mem_of_getElem? (i := 16) rfl))) (by decide) (backOf (W := 0) (rm_sch l Z aT hw [] b23 (x1 &&& (15 : Int32)) d23 (16 : Int32) (own_lo (x1 &&& (15 : Int32))) k23 [(.int (48 : Int32)), (.int (49 : Int32)), (.int (50 : Int32)), (.int (51 : Int32)), (.int (52 : Int32)), (.int (53 : Int32)), (.int (54 : Int32)), (.int (55 : Int32)), (.int (56 : Int32)), (.int (57 : Int32)), (.int (97 : Int32)), (.int (98 : Int32)), (.int (99 : Int32)), (.int (100 : Int32)), (.int (101 : Int32)), (.int (102 : Int32))] w1 g1 h24 n0 Z24 f82 f83 f84 f85 (own_elo (x1 &&& (15 : Int32))) f86 f87 o113 o114 hw1 hg1) hZ (hw _ (List.mem_of_getElem? (i := 18) rfl)) (hw _ (List.mem_of_getElem? (i := 1) rfl)) (by decide) (by decide)) q115a q115c (g := (mkF m 76 #[.val (.int x0), .val (.int x1), .val (.ref b23), .val (.ref b24), .val (.int ((x0 &&& (65535 : Int32)).toUInt32.toUInt16.toUInt32.toInt32)), .val (.int (F_val ((x0 &&& (65535 : Int32)).toUInt32.toUInt16.toUInt32.toInt32))), .val (.int (0 : Int32)), .val (.int (x1 &&& (15 : Int32))), .unset, .unset] [(.int (x1 &&& (15 : Int32))), (.ref b23)])) rfl (by rw [hml]; rfl) (Steps.refl _) (argsL := [(.int (x1 &&& (15 : Int32)))]) (rest := []) (lenOf pd5 rfl) rfl (by show 2 * 0 + _ ≤ _; exact Nat.le_of_eq rfl) (hb hby at_76) (fun _ _ => ⟨rfl, eq100, (by decide : 4 + 0 ≤ _), (by decide : 136 + 0 ≤ _)⟩)
            dsimp only [Pt.U, Pt.locs, Pt.cells, Pt.slots] at X115 l115 y115 z115 st115 hQ115
            subst l115 y115 z115
            obtain ⟨rfl, N115q, eq115⟩ := hQ115
            have N115 := Fr.app N100 N115q
            refine own_tr st115 ?_
            show own_Got p e below _ T115 (mkF m 79 #[.val (.int x0), .val (.int x1), .val (.ref b23), .val (.ref b24), .val (.int ((x0 &&& (65535 : Int32)).toUInt32.toUInt16.toUInt32.toInt32)), .val (.int (F_val ((x0 &&& (65535 : Int32)).toUInt32.toUInt16.toUInt32.toInt32))), .val (.int (0 : Int32)), .val (.int (x1 &&& (15 : Int32))), .unset, .unset] [(.int (F_sch (own_lo (x1 &&& (15 : Int32)))))])
            obtain ⟨_, _, ⟨T116, L116, k116, n116⟩, -, X116, ⟨Lc116, hQ116, l116, y116, z116⟩, st116⟩ := Jvm.LawKit.callS X115 hx (y := (⟨"com/example/lexsign/lexsign/util/HexDigit", "value", "(C)I"⟩ : MethodName)) hown (mvT hZ (hw _ (List.mem_of_getElem? (i := 10) rfl))) (mvT hZ (hw _ (List.mem_of_getElem? (i := 11) rfl))) (mvT hZ (hw _ (List.mem_of_getElem? (i := 12) rfl))) (mvT hZ (hw _ (List.mem_of_getElem? (i := 13) rfl))) (by decide) (backOf (W := 0) (rm_val l Z aT hw [] (F_sch (own_lo (x1 &&& (15 : Int32)))) h24 n0 Z24) hZ (hw _ (List.mem_of_getElem? (i := 13) rfl)) (hw _ (List.mem_of_getElem? (i := 12) rfl)) (by decide) (by decide)) (g := (mkF m 79 #[.val (.int x0), .val (.int x1), .val (.ref b23), .val (.ref b24), .val (.int ((x0 &&& (65535 : Int32)).toUInt32.toUInt16.toUInt32.toInt32)), .val (.int (F_val ((x0 &&& (65535 : Int32)).toUInt32.toUInt16.toUInt32.toInt32))), .val (.int (0 : Int32)), .val (.int (x1 &&& (15 : Int32))), .unset, .unset] [(.int (F_sch (own_lo (x1 &&& (15 : Int32)))))])) rfl (by rw [hml]; rfl) (argsL := [(.int (F_sch (own_lo (x1 &&& (15 : Int32)))))]) (rest := []) (lenOf pd4 rfl) rfl (by show 2 * 0 + _ ≤ _; exact Nat.le_of_eq rfl) (hb hby at_79) (fun _ _ => ⟨rfl, eq115, (by decide : 4 + 0 ≤ _), (by decide : 136 + 0 ≤ _)⟩)
            dsimp only [Pt.U, Pt.locs, Pt.cells, Pt.slots] at X116 l116 y116 z116 st116 hQ116
            subst l116 y116 z116
            obtain ⟨rfl, N116q, eq116⟩ := hQ116
            have N116 := Fr.app N115 N116q
            refine own_go st116 ?_
            show own_Got p e below _ T116 (mkF m 82 #[.val (.int x0), .val (.int x1), .val (.ref b23), .val (.ref b24), .val (.int ((x0 &&& (65535 : Int32)).toUInt32.toUInt16.toUInt32.toInt32)), .val (.int (F_val ((x0 &&& (65535 : Int32)).toUInt32.toUInt16.toUInt32.toInt32))), .val (.int (0 : Int32)), .val (.int (x1 &&& (15 : Int32))), .unset, .unset] [(.int (F_val (F_sch (own_lo (x1 &&& (15 : Int32))))))])
            refine g_iload X116 hx hby at_82 rfl (rfl : 82 + 2 = 84) ?_
            by_cases c117 : (F_val (F_sch (own_lo (x1 &&& (15 : Int32))))) = (x1 &&& (15 : Int32))
            · refine g_icF X116 hx hby at_84 (teq c117).2 (rfl : 84 + 3 = 87) ?_
              refine g_iconst X116 hx hby (1 : Int32) at_87 (by decide) (rfl : 87 + 1 = 88) ?_
              refine g_goto X116 hx hby at_88 (by decide) (pc' := 92) (by decide) ?_
              refine g_istore X116 hx hby #[.val (.int x0), .val (.int x1), .val (.ref b23), .val (.ref b24), .val (.int ((x0 &&& (65535 : Int32)).toUInt32.toUInt16.toUInt32.toInt32)), .val (.int (F_val ((x0 &&& (65535 : Int32)).toUInt32.toUInt16.toUInt32.toInt32))), .val (.int (0 : Int32)), .val (.int (x1 &&& (15 : Int32))), .val (.int (1 : Int32)), .unset] at_92 rfl (rfl : 92 + 2 = 94) ?_
              refine g_aloadN X116 hx hby at_94 rfl rfl (rfl : 94 + 1 = 95) ?_
              refine g_iload X116 hx hby at_95 rfl (rfl : 95 + 2 = 97) ?_
              obtain ⟨cq118, kq118, q118a, q118b, q118c⟩ := isOf hZ eq116 A24
              obtain ⟨_, _, ⟨T118, L118, k118, n118⟩, -, X118, ⟨Lc118, hQ118, l118, y118, z118⟩, st118⟩ := X116.virtualBack hx (y := (⟨"java/lang/String", "charAt", "(I)C"⟩ : MethodName)) (z := (⟨"java/lang/String", "charAt", "(I)C"⟩ : MethodName)) hown (mvT hZ (hw _ (List.mem_of_getElem? (i := 14) rfl))) (mvT hZ (hw _ (List.mem_of_getElem? (i := 15) rfl))) (notFace_of_selects (args := #[]) (mvT hZ (hw _ (List.mem_of_getElem? (i := 17) rfl)))) (mvT hZ (hw _ (List.mem_of_getElem? (i := 17) rfl))) (mvT hZ (hw _ (List.mem_of_getElem? (i := 16) rfl))) (by decide) (backOf (W := 0) (rm_sch l Z aT hw [] b24 (x1 &&& (15 : Int32)) d24 (16 : Int32) (own_up (x1 &&& (15 : Int32))) k24 [(.int (48 : Int32)), (.int (49 : Int32)), (.int (50 : Int32)), (.int (51 : Int32)), (.int (52 : Int32)), (.int (53 : Int32)), (.int (54 : Int32)), (.int (55 : Int32)), (.int (56 : Int32)), (.int (57 : Int32)), (.int (65 : Int32)), (.int (66 : Int32)), (.int (67 : Int32)), (.int (68 : Int32)), (.int (69 : Int32)), (.int (70 : Int32))] w1 g1 h24 n0 Z24 A24 fc24 fv24 V24 (own_eup (x1 &&& (15 : Int32))) f86 f87 o113 o114 hw1 hg1) hZ (hw _ (List.mem_of_getElem? (i := 18) rfl)) (hw _ (List.mem_of_getElem? (i := 1) rfl)) (by decide) (by decide)) q118a q118c (g := (mkF m 97 #[.val (.int x0), .val (.int x1), .val (.ref b23), .val (.ref b24), .val (.int ((x0 &&& (65535 : Int32)).toUInt32.toUInt16.toUInt32.toInt32)), .val (.int (F_val ((x0 &&& (65535 : Int32)).toUInt32.toUInt16.toUInt32.toInt32))), .val (.int (0 : Int32)), .val (.int (x1 &&& (15 : Int32))), .val (.int (1 : Int32)), .unset] [(.int (x1 &&& (15 : Int32))), (.ref b24)])) rfl (by rw [hml]; rfl) (Steps.refl _) (argsL := [(.int (x1 &&& (15 : Int32)))]) (rest := []) (lenOf pd5 rfl) rfl (by show 2 * 0 + _ ≤ _; exact Nat.le_of_eq rfl) (hb hby at_97) (fun _ _ => ⟨rfl, eq116, (by decide : 4 + 0 ≤ _), (by decide : 136 + 0 ≤ _)⟩)
              dsimp only [Pt.U, Pt.locs, Pt.cells, Pt.slots] at X118 l118 y118 z118 st118 hQ118
              subst l118 y118 z118
              obtain ⟨rfl, N118q, eq118⟩ := hQ118
              have N118 := Fr.app N116 N118q
              refine own_tr st118 ?_
              show own_Got p e below _ T118 (mkF m 100 #[.val (.int x0), .val (.int x1), .val (.ref b23), .val (.ref b24), .val (.int ((x0 &&& (65535 : Int32)).toUInt32.toUInt16.toUInt32.toInt32)), .val (.int (F_val ((x0 &&& (65535 : Int32)).toUInt32.toUInt16.toUInt32.toInt32))), .val (.int (0 : Int32)), .val (.int (x1 &&& (15 : Int32))), .val (.int (1 : Int32)), .unset] [(.int (F_sch (own_up (x1 &&& (15 : Int32)))))])
              obtain ⟨_, _, ⟨T119, L119, k119, n119⟩, -, X119, ⟨Lc119, hQ119, l119, y119, z119⟩, st119⟩ := Jvm.LawKit.callS X118 hx (y := (⟨"com/example/lexsign/lexsign/util/HexDigit", "value", "(C)I"⟩ : MethodName)) hown (mvT hZ (hw _ (List.mem_of_getElem? (i := 10) rfl))) (mvT hZ (hw _ (List.mem_of_getElem? (i := 11) rfl))) (mvT hZ (hw _ (List.mem_of_getElem? (i := 12) rfl))) (mvT hZ (hw _ (List.mem_of_getElem? (i := 13) rfl))) (by decide) (backOf (W := 0) (rm_val l Z aT hw [] (F_sch (own_up (x1 &&& (15 : Int32)))) h24 n0 Z24) hZ (hw _ (List.mem_of_getElem? (i := 13) rfl)) (hw _ (List.mem_of_getElem? (i := 12) rfl)) (by decide) (by decide)) (g := (mkF m 100 #[.val (.int x0), .val (.int x1), .val (.ref b23), .val (.ref b24), .val (.int ((x0 &&& (65535 : Int32)).toUInt32.toUInt16.toUInt32.toInt32)), .val (.int (F_val ((x0 &&& (65535 : Int32)).toUInt32.toUInt16.toUInt32.toInt32))), .val (.int (0 : Int32)), .val (.int (x1 &&& (15 : Int32))), .val (.int (1 : Int32)), .unset] [(.int (F_sch (own_up (x1 &&& (15 : Int32)))))])) rfl (by rw [hml]; rfl) (argsL := [(.int (F_sch (own_up (x1 &&& (15 : Int32)))))]) (rest := []) (lenOf pd4 rfl) rfl (by show 2 * 0 + _ ≤ _; exact Nat.le_of_eq rfl) (hb hby at_100) (fun _ _ => ⟨rfl, eq118, (by decide : 4 + 0 ≤ _), (by decide : 136 + 0 ≤ _)⟩)
              dsimp only [Pt.U, Pt.locs, Pt.cells, Pt.slots] at X119 l119 y119 z119 st119 hQ119
              subst l119 y119 z119
              obtain ⟨rfl, N119q, eq119⟩ := hQ119
              have N119 := Fr.app N118 N119q
              refine own_go st119 ?_
              show own_Got p e below _ T119 (mkF m 103 #[.val (.int x0), .val (.int x1), .val (.ref b23), .val (.ref b24), .val (.int ((x0 &&& (65535 : Int32)).toUInt32.toUInt16.toUInt32.toInt32)), .val (.int (F_val ((x0 &&& (65535 : Int32)).toUInt32.toUInt16.toUInt32.toInt32))), .val (.int (0 : Int32)), .val (.int (x1 &&& (15 : Int32))), .val (.int (1 : Int32)), .unset] [(.int (F_val (F_sch (own_up (x1 &&& (15 : Int32))))))])
              refine g_iload X119 hx hby at_103 rfl (rfl : 103 + 2 = 105) ?_
              by_cases c120 : (F_val (F_sch (own_up (x1 &&& (15 : Int32))))) = (x1 &&& (15 : Int32))
              · refine g_icF X119 hx hby at_105 (teq c120).2 (rfl : 105 + 3 = 108) ?_
                refine g_iconst X119 hx hby (1 : Int32) at_108 (by decide) (rfl : 108 + 1 = 109) ?_
                refine g_goto X119 hx hby at_109 (by decide) (pc' := 113) (by decide) ?_
                refine g_istore X119 hx hby #[.val (.int x0), .val (.int x1), .val (.ref b23), .val (.ref b24), .val (.int ((x0 &&& (65535 : Int32)).toUInt32.toUInt16.toUInt32.toInt32)), .val (.int (F_val ((x0 &&& (65535 : Int32)).toUInt32.toUInt16.toUInt32.toInt32))), .val (.int (0 : Int32)), .val (.int (x1 &&& (15 : Int32))), .val (.int (1 : Int32)), .val (.int (1 : Int32))] at_113 rfl (rfl : 113 + 2 = 115) ?_
                refine g_iload X119 hx hby at_115 rfl (rfl : 115 + 2 = 117) ?_
                refine g_ifT X119 hx hby at_117 ((if0 _ _).trans (teq (by decide : (0 : Int32) = (0 : Int32))).1) (by decide) (pc' := 134) (by decide) ?_
                refine g_iconst X119 hx hby (0 : Int32) at_134 (by decide) (rfl : 134 + 1 = 135) ?_
                refine own_retNW X119 hx hby hS hkk hZ hEL eq119 CR24 hlk (t := .boolean) hrt (by simp) at_135 (by decide) (by decide) ?_
                show Q_law Z x0 x1 g1 w1 h0 n0 _ T119.heap _
                exact ⟨(congrArg (fun z => some (Value.int z)) (by rw [F_law, if_neg c26, if_neg c44, if_neg c62, if_neg c88, if_neg c101, if_pos c117, if_pos c120] <;> rfl)), N119⟩
              · refine g_icT X119 hx hby at_105 (feq c120).2 (by decide) (pc' := 112) (by decide) ?_
                refine g_iconst X119 hx hby (0 : Int32) at_112 (by decide) (rfl : 112 + 1 = 113) ?_
                refine g_istore X119 hx hby #[.val (.int x0), .val (.int x1), .val (.ref b23), .val (.ref b24), .val (.int ((x0 &&& (65535 : Int32)).toUInt32.toUInt16.toUInt32.toInt32)), .val (.int (F_val ((x0 &&& (65535 : Int32)).toUInt32.toUInt16.toUInt32.toInt32))), .val (.int (0 : Int32)), .val (.int (x1 &&& (15 : Int32))), .val (.int (1 : Int32)), .val (.int (0 : Int32))] at_113 rfl (rfl : 113 + 2 = 115) ?_
                refine g_iload X119 hx hby at_115 rfl (rfl : 115 + 2 = 117) ?_
                refine g_ifT X119 hx hby at_117 ((if0 _ _).trans (teq (by decide : (0 : Int32) = (0 : Int32))).1) (by decide) (pc' := 134) (by decide) ?_
                refine g_iconst X119 hx hby (0 : Int32) at_134 (by decide) (rfl : 134 + 1 = 135) ?_
                refine own_retNW X119 hx hby hS hkk hZ hEL eq119 CR24 hlk (t := .boolean) hrt (by simp) at_135 (by decide) (by decide) ?_
                show Q_law Z x0 x1 g1 w1 h0 n0 _ T119.heap _
                exact ⟨(congrArg (fun z => some (Value.int z)) (by rw [F_law, if_neg c26, if_neg c44, if_neg c62, if_neg c88, if_neg c101, if_pos c117, if_neg c120] <;> rfl)), N119⟩
            · refine g_icT X116 hx hby at_84 (feq c117).2 (by decide) (pc' := 91) (by decide) ?_
              refine g_iconst X116 hx hby (0 : Int32) at_91 (by decide) (rfl : 91 + 1 = 92) ?_
              refine g_istore X116 hx hby #[.val (.int x0), .val (.int x1), .val (.ref b23), .val (.ref b24), .val (.int ((x0 &&& (65535 : Int32)).toUInt32.toUInt16.toUInt32.toInt32)), .val (.int (F_val ((x0 &&& (65535 : Int32)).toUInt32.toUInt16.toUInt32.toInt32))), .val (.int (0 : Int32)), .val (.int (x1 &&& (15 : Int32))), .val (.int (0 : Int32)), .unset] at_92 rfl (rfl : 92 + 2 = 94) ?_
              refine g_aloadN X116 hx hby at_94 rfl rfl (rfl : 94 + 1 = 95) ?_
              refine g_iload X116 hx hby at_95 rfl (rfl : 95 + 2 = 97) ?_
              obtain ⟨cq121, kq121, q121a, q121b, q121c⟩ := isOf hZ eq116 A24
              obtain ⟨_, _, ⟨T121, L121, k121, n121⟩, -, X121, ⟨Lc121, hQ121, l121, y121, z121⟩, st121⟩ := X116.virtualBack hx (y := (⟨"java/lang/String", "charAt", "(I)C"⟩ : MethodName)) (z := (⟨"java/lang/String", "charAt", "(I)C"⟩ : MethodName)) hown (mvT hZ (hw _ (List.mem_of_getElem? (i := 14) rfl))) (mvT hZ (hw _ (List.mem_of_getElem? (i := 15) rfl))) (notFace_of_selects (args := #[]) (mvT hZ (hw _ (List.mem_of_getElem? (i := 17) rfl)))) (mvT hZ (hw _ (List.mem_of_getElem? (i := 17) rfl))) (mvT hZ (hw _ (List.mem_of_getElem? (i := 16) rfl))) (by decide) (backOf (W := 0) (rm_sch l Z aT hw [] b24 (x1 &&& (15 : Int32)) d24 (16 : Int32) (own_up (x1 &&& (15 : Int32))) k24 [(.int (48 : Int32)), (.int (49 : Int32)), (.int (50 : Int32)), (.int (51 : Int32)), (.int (52 : Int32)), (.int (53 : Int32)), (.int (54 : Int32)), (.int (55 : Int32)), (.int (56 : Int32)), (.int (57 : Int32)), (.int (65 : Int32)), (.int (66 : Int32)), (.int (67 : Int32)), (.int (68 : Int32)), (.int (69 : Int32)), (.int (70 : Int32))] w1 g1 h24 n0 Z24 A24 fc24 fv24 V24 (own_eup (x1 &&& (15 : Int32))) f86 f87 o113 o114 hw1 hg1) hZ (hw _ (List.mem_of_getElem? (i := 18) rfl)) (hw _ (List.mem_of_getElem? (i := 1) rfl)) (by decide) (by decide)) q121a q121c (g := (mkF m 97 #[.val (.int x0), .val (.int x1), .val (.ref b23), .val (.ref b24), .val (.int ((x0 &&& (65535 : Int32)).toUInt32.toUInt16.toUInt32.toInt32)), .val (.int (F_val ((x0 &&& (65535 : Int32)).toUInt32.toUInt16.toUInt32.toInt32))), .val (.int (0 : Int32)), .val (.int (x1 &&& (15 : Int32))), .val (.int (0 : Int32)), .unset] [(.int (x1 &&& (15 : Int32))), (.ref b24)])) rfl (by rw [hml]; rfl) (Steps.refl _) (argsL := [(.int (x1 &&& (15 : Int32)))]) (rest := []) (lenOf pd5 rfl) rfl (by show 2 * 0 + _ ≤ _; exact Nat.le_of_eq rfl) (hb hby at_97) (fun _ _ => ⟨rfl, eq116, (by decide : 4 + 0 ≤ _), (by decide : 136 + 0 ≤ _)⟩)
              dsimp only [Pt.U, Pt.locs, Pt.cells, Pt.slots] at X121 l121 y121 z121 st121 hQ121
              subst l121 y121 z121
              obtain ⟨rfl, N121q, eq121⟩ := hQ121
              have N121 := Fr.app N116 N121q
              refine own_tr st121 ?_
              show own_Got p e below _ T121 (mkF m 100 #[.val (.int x0), .val (.int x1), .val (.ref b23), .val (.ref b24), .val (.int ((x0 &&& (65535 : Int32)).toUInt32.toUInt16.toUInt32.toInt32)), .val (.int (F_val ((x0 &&& (65535 : Int32)).toUInt32.toUInt16.toUInt32.toInt32))), .val (.int (0 : Int32)), .val (.int (x1 &&& (15 : Int32))), .val (.int (0 : Int32)), .unset] [(.int (F_sch (own_up (x1 &&& (15 : Int32)))))])
              obtain ⟨_, _, ⟨T122, L122, k122, n122⟩, -, X122, ⟨Lc122, hQ122, l122, y122, z122⟩, st122⟩ := Jvm.LawKit.callS X121 hx (y := (⟨"com/example/lexsign/lexsign/util/HexDigit", "value", "(C)I"⟩ : MethodName)) hown (mvT hZ (hw _ (List.mem_of_getElem? (i := 10) rfl))) (mvT hZ (hw _ (List.mem_of_getElem? (i := 11) rfl))) (mvT hZ (hw _ (List.mem_of_getElem? (i := 12) rfl))) (mvT hZ (hw _ (List.mem_of_getElem? (i := 13) rfl))) (by decide) (backOf (W := 0) (rm_val l Z aT hw [] (F_sch (own_up (x1 &&& (15 : Int32)))) h24 n0 Z24) hZ (hw _ (List.mem_of_getElem? (i := 13) rfl)) (hw _ (List.mem_of_getElem? (i := 12) rfl)) (by decide) (by decide)) (g := (mkF m 100 #[.val (.int x0), .val (.int x1), .val (.ref b23), .val (.ref b24), .val (.int ((x0 &&& (65535 : Int32)).toUInt32.toUInt16.toUInt32.toInt32)), .val (.int (F_val ((x0 &&& (65535 : Int32)).toUInt32.toUInt16.toUInt32.toInt32))), .val (.int (0 : Int32)), .val (.int (x1 &&& (15 : Int32))), .val (.int (0 : Int32)), .unset] [(.int (F_sch (own_up (x1 &&& (15 : Int32)))))])) rfl (by rw [hml]; rfl) (argsL := [(.int (F_sch (own_up (x1 &&& (15 : Int32)))))]) (rest := []) (lenOf pd4 rfl) rfl (by show 2 * 0 + _ ≤ _; exact Nat.le_of_eq rfl) (hb hby at_100) (fun _ _ => ⟨rfl, eq121, (by decide : 4 + 0 ≤ _), (by decide : 136 + 0 ≤ _)⟩)
              dsimp only [Pt.U, Pt.locs, Pt.cells, Pt.slots] at X122 l122 y122 z122 st122 hQ122
              subst l122 y122 z122
              obtain ⟨rfl, N122q, eq122⟩ := hQ122
              have N122 := Fr.app N121 N122q
              refine own_go st122 ?_
              show own_Got p e below _ T122 (mkF m 103 #[.val (.int x0), .val (.int x1), .val (.ref b23), .val (.ref b24), .val (.int ((x0 &&& (65535 : Int32)).toUInt32.toUInt16.toUInt32.toInt32)), .val (.int (F_val ((x0 &&& (65535 : Int32)).toUInt32.toUInt16.toUInt32.toInt32))), .val (.int (0 : Int32)), .val (.int (x1 &&& (15 : Int32))), .val (.int (0 : Int32)), .unset] [(.int (F_val (F_sch (own_up (x1 &&& (15 : Int32))))))])
              refine g_iload X122 hx hby at_103 rfl (rfl : 103 + 2 = 105) ?_
              by_cases c123 : (F_val (F_sch (own_up (x1 &&& (15 : Int32))))) = (x1 &&& (15 : Int32))
              · refine g_icF X122 hx hby at_105 (teq c123).2 (rfl : 105 + 3 = 108) ?_
                refine g_iconst X122 hx hby (1 : Int32) at_108 (by decide) (rfl : 108 + 1 = 109) ?_
                refine g_goto X122 hx hby at_109 (by decide) (pc' := 113) (by decide) ?_
                refine g_istore X122 hx hby #[.val (.int x0), .val (.int x1), .val (.ref b23), .val (.ref b24), .val (.int ((x0 &&& (65535 : Int32)).toUInt32.toUInt16.toUInt32.toInt32)), .val (.int (F_val ((x0 &&& (65535 : Int32)).toUInt32.toUInt16.toUInt32.toInt32))), .val (.int (0 : Int32)), .val (.int (x1 &&& (15 : Int32))), .val (.int (0 : Int32)), .val (.int (1 : Int32))] at_113 rfl (rfl : 113 + 2 = 115) ?_
                refine g_iload X122 hx hby at_115 rfl (rfl : 115 + 2 = 117) ?_
                refine g_ifT X122 hx hby at_117 ((if0 _ _).trans (teq (by decide : (0 : Int32) = (0 : Int32))).1) (by decide) (pc' := 134) (by decide) ?_
                refine g_iconst X122 hx hby (0 : Int32) at_134 (by decide) (rfl : 134 + 1 = 135) ?_
                refine own_retNW X122 hx hby hS hkk hZ hEL eq122 CR24 hlk (t := .boolean) hrt (by simp) at_135 (by decide) (by decide) ?_
                show Q_law Z x0 x1 g1 w1 h0 n0 _ T122.heap _
                exact ⟨(congrArg (fun z => some (Value.int z)) (by rw [F_law, if_neg c26, if_neg c44, if_neg c62, if_neg c88, if_neg c101, if_neg c117, if_pos c123] <;> rfl)), N122⟩
              · refine g_icT X122 hx hby at_105 (feq c123).2 (by decide) (pc' := 112) (by decide) ?_
                refine g_iconst X122 hx hby (0 : Int32) at_112 (by decide) (rfl : 112 + 1 = 113) ?_
                refine g_istore X122 hx hby #[.val (.int x0), .val (.int x1), .val (.ref b23), .val (.ref b24), .val (.int ((x0 &&& (65535 : Int32)).toUInt32.toUInt16.toUInt32.toInt32)), .val (.int (F_val ((x0 &&& (65535 : Int32)).toUInt32.toUInt16.toUInt32.toInt32))), .val (.int (0 : Int32)), .val (.int (x1 &&& (15 : Int32))), .val (.int (0 : Int32)), .val (.int (0 : Int32))] at_113 rfl (rfl : 113 + 2 = 115) ?_
                refine g_iload X122 hx hby at_115 rfl (rfl : 115 + 2 = 117) ?_
                refine g_ifT X122 hx hby at_117 ((if0 _ _).trans (teq (by decide : (0 : Int32) = (0 : Int32))).1) (by decide) (pc' := 134) (by decide) ?_
                refine g_iconst X122 hx hby (0 : Int32) at_134 (by decide) (rfl : 134 + 1 = 135) ?_
                refine own_retNW X122 hx hby hS hkk hZ hEL eq122 CR24 hlk (t := .boolean) hrt (by simp) at_135 (by decide) (by decide) ?_
                show Q_law Z x0 x1 g1 w1 h0 n0 _ T122.heap _
                exact ⟨(congrArg (fun z => some (Value.int z)) (by rw [F_law, if_neg c26, if_neg c44, if_neg c62, if_neg c88, if_neg c101, if_neg c117, if_neg c123] <;> rfl)), N122⟩
theorem own_ofNat (c : Int32) (h : 0 ≤ c.toInt) : c = Int32.ofNat c.toInt.toNat := by
  have hl := Int32.toInt_lt c
  apply Int32.toInt_inj.mp
  rw [Int32.toInt_ofNat_of_lt (by omega)]
  omega
def own_good (c : Int32) : Prop := F_val c = -1 ∨ (¬ F_val c = -1 ∧ ¬ F_val c < 0 ∧ ¬ 15 < F_val c ∧ (F_sch (own_lo (F_val c)) = c ∨ F_sch (own_up (F_val c)) = c))
instance (c : Int32) : Decidable (own_good c) := by unfold own_good; infer_instance
theorem own_p1 (c : Int32) : own_good c := by
  by_cases h0 : 0 ≤ c.toInt
  · by_cases h1 : c.toInt < 128
    · have q := (by decide +kernel : ∀ k : Fin 128, own_good (Int32.ofNat k.val)) ⟨c.toInt.toNat, by omega⟩
      rw [own_ofNat c h0]; exact q
    · left
      have e1 : ¬ c < (48 : Int32) := by rw [Int32.lt_iff_toInt_lt, (by decide : (48 : Int32).toInt = 48)]; omega
      have e2 : (57 : Int32) < c := by rw [Int32.lt_iff_toInt_lt, (by decide : (57 : Int32).toInt = 57)]; omega
      have e3 : ¬ c < (97 : Int32) := by rw [Int32.lt_iff_toInt_lt, (by decide : (97 : Int32).toInt = 97)]; omega
      have e4 : (102 : Int32) < c := by rw [Int32.lt_iff_toInt_lt, (by decide : (102 : Int32).toInt = 102)]; omega
      have e5 : ¬ c < (65 : Int32) := by rw [Int32.lt_iff_toInt_lt, (by decide : (65 : Int32).toInt = 65)]; omega
      have e6 : (70 : Int32) < c := by rw [Int32.lt_iff_toInt_lt, (by decide : (70 : Int32).toInt = 70)]; omega
      rw [F_val, if_neg e1, if_pos e2, if_neg e3, if_pos e4, if_neg e5, if_pos e6]
  · left
    have e1 : c < (48 : Int32) := by rw [Int32.lt_iff_toInt_lt, (by decide : (48 : Int32).toInt = 48)]; omega
    have e2 : c < (97 : Int32) := by rw [Int32.lt_iff_toInt_lt, (by decide : (97 : Int32).toInt = 97)]; omega
    have e3 : c < (65 : Int32) := by rw [Int32.lt_iff_toInt_lt, (by decide : (65 : Int32).toInt = 65)]; omega
    rw [F_val, if_pos e1, if_pos e2, if_pos e3]
theorem own_p2 (y : Int32) : F_val (F_sch (own_lo (y &&& (15 : Int32)))) = (y &&& (15 : Int32)) ∧ F_val (F_sch (own_up (y &&& (15 : Int32)))) = (y &&& (15 : Int32)) := by
  have h := own_dd y
  have q := (by decide +kernel : ∀ k : Fin 16, F_val (F_sch (own_lo (Int32.ofNat k.val))) = Int32.ofNat k.val ∧ F_val (F_sch (own_up (Int32.ofNat k.val))) = Int32.ofNat k.val) ⟨(y &&& (15 : Int32)).toInt.toNat, by omega⟩
  rw [own_ofNat _ h.1]; exact q
theorem own_plain (x0 x1 : Int32) : F_law x0 x1 = 1 := by
  have h2 := own_p2 x1
  unfold F_law
  generalize ((x0 &&& (65535 : Int32)).toUInt32.toUInt16.toUInt32.toInt32) = c
  simp only [h2.1, h2.2, if_true]
  rcases own_p1 c with h | ⟨h1, h3, h4, h5⟩
  · rw [if_pos h]
  · rw [if_neg h1, if_neg h3, if_neg h4]
    by_cases q : F_sch (own_lo (F_val c)) = c
    · rw [if_pos q]
    · rw [if_neg q, if_pos (h5.resolve_left q)]

set_option maxRecDepth 65536 in
set_option maxHeartbeats 40000000 in
theorem comes_1 {Post : Tables → Env → Array Value → State → Outcome → State → Prop} (hpost : ∀ tb e args s v u, (limb_1_1.after args s (.returned v) u = true ∧ limb_1_2.after args s (.returned v) u = true ∧ True) → ReturnedEndW s (.returned v) u (Jvm.fieldLocs frame_1_writes args s ++ Jvm.arrayLocs frame_1_arrays args s ++ Jvm.staticLocs frame_1_statics s) 8 2112 → Post tb e args s (.returned v) u) :
    ArmFor flags0 classFile x code maxLocals ret World_1 tables_1 room_1 Calls_1 rest_1 Pre_1 Post := by
  intro l hfl _ _ p e ha hc hk s m args below hf hA hF happ hP
  obtain ⟨hcalls, hrest, hpre⟩ := hP
  obtain ⟨-, -, -, hnamed, -, -, -, hat⟩ := (Spec.applies_iff hf).mp happ
  obtain ⟨hg, hn⟩ := and_e (Cond.before_iff.mp (show (Jvm.Cond.and given_1 narrow_1).before args s = true from hpre))
  obtain ⟨hcnt, hg0⟩ := and_e hg
  obtain ⟨ha0, hg1⟩ := and_e hg0
  obtain ⟨w0, w1, rfl⟩ : ∃ w0 w1 : Value, args = #[w0, w1] := by
    have hs : args.size = 2 := by simpa [Cond.value, given_1] using hcnt
    obtain ⟨L⟩ := args
    match L, hs with
    | [w0, w1], _ => exact ⟨w0, w1, rfl⟩
  have hw := fun d (hd : d ∈ tables_1) => atoms_spec (ws := Jvm.Cond.code x code maxLocals ret :: tables_1) hat d (List.mem_cons_of_mem _ hd)
  have hfit : Fit s := fun {y c} hc i hi => by
    obtain ⟨ha, rfl⟩ := Array.getElem?_eq_some_iff.mp hc
    have q := List.all_eq_true.mp ((Array.all_eq_true_iff_forall_mem.mp hF) _ (Array.getElem_mem ha)) i (List.mem_range.mpr hi)
    simpa [Array.getElem?_eq_getElem hi] using q
  obtain ⟨i0, ei0⟩ := is_v ha0
  obtain rfl : w0 = (.int i0) := Option.some.inj ei0
  obtain ⟨i1, ei1⟩ := is_v hg1
  obtain rfl : w1 = (.int i1) := Option.some.inj ei1
  obtain ⟨hsets, hown0⟩ := atoms_of _ (rest_1_c_eq ▸ (show rest_1_c.before _ s = true from hrest))
  obtain ⟨G1, evG1⟩ := is_v (Cond.before_iff.mp (hsets _ (List.mem_of_getElem? (i := 1) rfl)))
  have SG1 := Sta.start evG1 (Or.inl (hsets _ (List.mem_of_getElem? (i := 0) rfl)))
  have NG1 : ¬ (G1 = (0 : Int32)) := gotF (Cond.eq_ints evG1 rfl) (not_v (Cond.before_iff.mp (hsets _ (List.mem_of_getElem? (i := 2) rfl))))
  obtain ⟨W1, evW1, RW1⟩ := isR_v (Cond.before_iff.mp (hsets _ (List.mem_of_getElem? (i := 8) rfl)))
  have SW1 := Sta.start evW1 (Or.inl (hsets _ (List.mem_of_getElem? (i := 7) rfl)))
  have CH0 : CHv s consts_1 s.vm s.heap := CHv.start (own_EL hw) (fun q hq => hcalls.1 q hq) (hsets _ (List.mem_of_getElem? (i := 2) rfl)) (hw _ (List.mem_of_getElem? (i := 3) rfl)) (hw _ (List.mem_of_getElem? (i := 2) rfl))
  obtain ⟨n, o, h1, h2, h3, _, L, rfl, ⟨hv, N⟩, -, hq⟩ := rm_law l s _ hw tables_1 i0 i1 G1 W1 s.heap s.heap.size (Nat.le_refl _) SG1 SW1 NG1 RW1 p e ha hc hk s m _ below hf ((Spec.applies_iff_loose hf).mp happ).1 ⟨rfl, State.Warmed39.refl s, rfl, CH0⟩ trivial
  rw [own_plain i0 i1] at hv
  subst hv
  refine ⟨n, _, h1, h2, h3, hpost _ _ _ _ _ _ ⟨Cond.after_iff.mpr rfl, Cond.after_iff.mpr (eq_i res_at (Term.int_eval (1)) rfl), trivial⟩ ⟨hq.1, hq.2.1, hq.2.2.1, (hq.2.2.2.sift fun y hy => Or.inr (N y hy)).mono (by decide) (by decide)⟩⟩
theorem main_1_1 : Claimed_1_1 := comes_1 fun _ _ _ _ _ _ h hF => ⟨h.1, hF⟩
theorem main_1_2 : Claimed_1_2 := comes_1 fun _ _ _ _ _ _ h hF => ⟨h.2.1, hF⟩
end Jvm.Pilot.@@N@@
namespace Jvm.Pilot.@@N@@
open Jvm Jvm.ClassFile Sem Op Lib Jvm.Free Jvm.Stand Jvm.Pilot.@@N@@.Jvm.D
/-! MADE BY PROGRAM (witnessworld.py) out of the Statement's table words and the real class files: 17 classes; the members and pool entries that the words name. The judged class is class 1, her method 1. -/
namespace start1
open Jvm.ClassFile
def u (s : String) : CpInfo := .utf8 (stringToUtf16 s)
/-- a pool by its gaps: so many unusable entries, then the entry; so many at the end -/
def gap : Nat → List CpInfo → List CpInfo
  | 0, r => r
  | n + 1, r => .unusable :: gap n r
def poolList (es : List (Nat × CpInfo)) (last : Nat) : List CpInfo := es.foldr (fun e r => gap e.1 (e.2 :: r)) (gap last [])
def pool (es : List (Nat × CpInfo)) (last : Nat) : Array CpInfo := ⟨poolList es last⟩
def fileOf (pool : Array CpInfo) (this : Nat) (attrs : Array Attribute := #[]) (ms : Array MethodInfo := #[]) (fl : Nat := 33) (sup : Nat := 0) (ifs : Array Nat := #[]) (fds : Array FieldInfo := #[]) : ClassFile where
  minorVersion := 0
  majorVersion := 65
  constantPool := pool
  accessFlags := fl
  thisClass := this
  superClass := sup
  interfaces := ifs
  fields := fds
  methods := ms
  attributes := attrs
def plain (name : String) (sup : Option ClassId) : Class where
  name := name
  kind := .ordinary
  loader := none
  accessFlags := 33
  super := sup
  interfaces := #[]
  cf := none
  fields := #[]
  methods := #[]
  instanceTypes := #[]
  staticTypes := #[]
  resolved := #[]
  callSites := []
  init := .initialized
  statics := none
  mirror := none

def pool0 : Array CpInfo := pool [(5, u "<init>"), (0, u "()V"), (1, .class_ 10), (1, u "java/lang/Object")] 113

def k0m0 : Method := { name := "<init>", desc := "()V", sig := { parameters := [], returnType := none }, accessFlags := 1, code := none }
/-- java/lang/Object -/
def k0 : Class := { plain "java/lang/Object" none with
  accessFlags := 33
  interfaces := #[]
  cf := some (fileOf pool0 8 #[] #[{ accessFlags := 1, nameIndex := 5, descriptorIndex := 6, attributes := #[] }] 33 0 #[] #[])
  fields := #[]
  methods := #[k0m0]
  instanceTypes := #[]
  staticTypes := #[]
  resolved := Array.replicate 124 none
  statics := none }

def pool1 : Array CpInfo := pool [(2, .class_ 4), (1, u "java/lang/Object"), (0, u "<init>"), (0, u "()V"), (0, .string 8), (0, u "0123456789abcdef"), (0, .string 10), (0, u "0123456789ABCDEF"), (0, .integer 65535), (0, .methodref 13 14), (0, .class_ 15), (0, .nameAndType 16 17), (0, u "com/example/lexsign/lexsign/util/HexDigit"), (0, u "value"), (0, u "(C)I"), (0, .methodref 19 20), (0, .class_ 21), (0, .nameAndType 22 23), (0, u "java/lang/String"), (0, u "charAt"), (0, u "(I)C"), (0, .class_ 25), (0, u "com/example/lexsign/lexsign/util/HexDigitValuePinLaw"), (2, u "law"), (0, u "(II)Z")] 3

def k1m0 : Method := { name := "<init>", desc := "()V", sig := { parameters := [], returnType := none }, accessFlags := 2, code := none }
def k1c1 : Code := { maxStack := 2, maxLocals := 10, code := code, exceptionTable := #[], attributes := #[] }
def k1m1 : Method := { name := "law", desc := "(II)Z", sig := { parameters := [.int, .int], returnType := some .boolean }, accessFlags := 9, code := some k1c1 }
/-- com/example/lexsign/lexsign/util/HexDigitValuePinLaw -/
def k1 : Class := { plain "com/example/lexsign/lexsign/util/HexDigitValuePinLaw" (some 0) with
  accessFlags := 49
  interfaces := #[]
  cf := some (fileOf pool1 24 #[] #[{ accessFlags := 2, nameIndex := 5, descriptorIndex := 6, attributes := #[] }, { accessFlags := 9, nameIndex := 28, descriptorIndex := 29, attributes := #[] }] 49 2 #[] #[])
  fields := #[]
  methods := #[k1m0, k1m1]
  instanceTypes := #[]
  staticTypes := #[]
  resolved := Array.replicate 33 none
  statics := none }

def pool2 : Array CpInfo := pool [(1, .class_ 2), (0, u "java/io/Serializable"), (0, .class_ 4), (0, u "java/lang/Object")] 2

/-- java/io/Serializable -/
def k2 : Class := { plain "java/io/Serializable" (some 0) with
  accessFlags := 1537
  interfaces := #[]
  cf := some (fileOf pool2 1 #[] #[] 1537 3 #[] #[])
  fields := #[]
  methods := #[]
  instanceTypes := #[]
  staticTypes := #[]
  resolved := Array.replicate 7 none
  statics := none }

def pool3 : Array CpInfo := pool [(1, .class_ 2), (0, u "java/lang/Comparable"), (0, .class_ 4), (0, u "java/lang/Object")] 7

/-- java/lang/Comparable -/
def k3 : Class := { plain "java/lang/Comparable" (some 0) with
  accessFlags := 1537
  interfaces := #[]
  cf := some (fileOf pool3 1 #[] #[] 1537 3 #[] #[])
  fields := #[]
  methods := #[]
  instanceTypes := #[]
  staticTypes := #[]
  resolved := Array.replicate 12 none
  statics := none }

def pool4 : Array CpInfo := pool [(2, .class_ 4), (1, u "java/lang/CharSequence"), (42, .class_ 48), (0, u "java/lang/CharSequence$1CodePointIterator"), (10, .class_ 60), (0, u "java/lang/CharSequence$1CharIterator"), (5, .class_ 67), (0, u "java/lang/Object")] 63

/-- java/lang/CharSequence -/
def k4 : Class := { plain "java/lang/CharSequence" (some 0) with
  accessFlags := 1537
  interfaces := #[]
  cf := some (fileOf pool4 2 #[.nestMembers #[47, 59]] #[] 1537 66 #[] #[])
  fields := #[]
  methods := #[]
  instanceTypes := #[]
  staticTypes := #[]
  resolved := Array.replicate 131 none
  statics := none }

def pool5 : Array CpInfo := pool [(1, .class_ 2), (0, u "java/lang/constant/Constable"), (0, .class_ 4), (0, u "java/lang/Object")] 6

/-- java/lang/constant/Constable -/
def k5 : Class := { plain "java/lang/constant/Constable" (some 0) with
  accessFlags := 1537
  interfaces := #[]
  cf := some (fileOf pool5 1 #[] #[] 1537 3 #[] #[])
  fields := #[]
  methods := #[]
  instanceTypes := #[]
  staticTypes := #[]
  resolved := Array.replicate 11 none
  statics := none }

def pool6 : Array CpInfo := pool [(1, .class_ 2), (0, u "java/lang/constant/ConstantDesc"), (0, .class_ 4), (0, u "java/lang/Object")] 32

/-- java/lang/constant/ConstantDesc -/
def k6 : Class := { plain "java/lang/constant/ConstantDesc" (some 0) with
  accessFlags := 1537
  interfaces := #[]
  cf := some (fileOf pool6 1 #[] #[] 1537 3 #[] #[])
  fields := #[]
  methods := #[]
  instanceTypes := #[]
  staticTypes := #[]
  resolved := Array.replicate 37 none
  statics := none }

def pool7 : Array CpInfo := pool [(2, .class_ 4), (1, u "java/lang/Object"), (0, u "<init>"), (0, u "()V"), (2, .fieldref 10 11), (0, .class_ 12), (0, .nameAndType 13 14), (0, u "java/lang/String"), (0, u "value"), (0, u "[B"), (0, .fieldref 10 16), (0, .nameAndType 17 18), (0, u "coder"), (0, u "B"), (2, u "hash"), (0, u "I"), (2, u "hashIsZero"), (0, u "Z"), (11, .fieldref 10 39), (0, .nameAndType 40 26), (0, u "COMPACT_STRINGS"), (66, .class_ 109), (1, u "java/lang/StringLatin1"), (32, u "()Z"), (220, u "([BI)C"), (27, u "(II)V"), (35, u "(I)C"), (64, .methodref 10 493), (0, .nameAndType 494 142), (0, u "isLatin1"), (0, .methodref 107 496), (0, .nameAndType 497 363), (0, u "charAt"), (3, u "checkIndex"), (73, .class_ 576), (0, u "java/lang/CharSequence"), (22, u "CASE_INSENSITIVE_ORDER"), (0, u "Ljava/util/Comparator;"), (452, .fieldref 1054 1055), (0, .class_ 1056), (0, .nameAndType 1057 1058), (0, u "jdk/internal/util/Preconditions"), (0, u "SIOOBE_FORMATTER"), (0, u "Ljava/util/function/BiFunction;"), (0, .methodref 1054 1060), (0, .nameAndType 501 1061), (0, u "(IILjava/util/function/BiFunction;)I"), (39, u "serialPersistentFields"), (0, u "[Ljava/io/ObjectStreamField;"), (0, .class_ 1104), (0, u "java/lang/String$CaseInsensitiveComparator"), (1, .class_ 1107), (0, u "java/io/Serializable"), (0, .class_ 1109), (0, u "java/lang/Comparable"), (0, .class_ 1111), (0, u "java/lang/constant/Constable"), (0, .class_ 1113), (0, u "java/lang/constant/ConstantDesc"), (2, u "serialVersionUID"), (0, u "J"), (3, u "REPL"), (0, u "C"), (2, u "LATIN1"), (1, u "UTF16")] 323

def k7m0 : Method := { name := "<init>", desc := "()V", sig := { parameters := [], returnType := none }, accessFlags := 1, code := none }
def k7c1 : Code := { maxStack := 2, maxLocals := 2, code := jdk_42_method_56_code, exceptionTable := #[], attributes := #[] }
def k7m1 : Method := { name := "charAt", desc := "(I)C", sig := { parameters := [.int], returnType := some .char }, accessFlags := 1, code := some k7c1 }
def k7c2 : Code := { maxStack := 1, maxLocals := 1, code := jdk_42_method_154_code, exceptionTable := #[], attributes := #[] }
def k7m2 : Method := { name := "isLatin1", desc := "()Z", sig := { parameters := [], returnType := some .boolean }, accessFlags := 0, code := some k7c2 }
def k7c3 : Code := { maxStack := 3, maxLocals := 2, code := jdk_42_method_155_code, exceptionTable := #[], attributes := #[] }
def k7m3 : Method := { name := "checkIndex", desc := "(II)V", sig := { parameters := [.int, .int], returnType := none }, accessFlags := 8, code := some k7c3 }
/-- java/lang/String -/
def k7 : Class := { plain "java/lang/String" (some 0) with
  accessFlags := 49
  interfaces := #[2, 3, 4, 5, 6]
  cf := some (fileOf pool7 10 #[.nestMembers #[1103]] #[{ accessFlags := 1, nameIndex := 5, descriptorIndex := 6, attributes := #[] }, { accessFlags := 1, nameIndex := 497, descriptorIndex := 427, attributes := #[] }, { accessFlags := 0, nameIndex := 494, descriptorIndex := 142, attributes := #[] }, { accessFlags := 8, nameIndex := 501, descriptorIndex := 391, attributes := #[] }] 49 2 #[1106, 1108, 575, 1110, 1112] #[{ accessFlags := 18, nameIndex := 13, descriptorIndex := 14, attributes := #[] }, { accessFlags := 18, nameIndex := 17, descriptorIndex := 18, attributes := #[] }, { accessFlags := 2, nameIndex := 21, descriptorIndex := 22, attributes := #[] }, { accessFlags := 2, nameIndex := 25, descriptorIndex := 26, attributes := #[] }, { accessFlags := 26, nameIndex := 1116, descriptorIndex := 1117, attributes := #[] }, { accessFlags := 24, nameIndex := 40, descriptorIndex := 26, attributes := #[] }, { accessFlags := 26, nameIndex := 1101, descriptorIndex := 1102, attributes := #[] }, { accessFlags := 26, nameIndex := 1121, descriptorIndex := 1122, attributes := #[] }, { accessFlags := 25, nameIndex := 599, descriptorIndex := 600, attributes := #[] }, { accessFlags := 24, nameIndex := 1125, descriptorIndex := 18, attributes := #[] }, { accessFlags := 24, nameIndex := 1127, descriptorIndex := 18, attributes := #[] }])
  fields := #[{ name := "value", type := (.array .byte), accessFlags := 18, slot := 0, constantValue := 0 }, { name := "coder", type := .byte, accessFlags := 18, slot := 1, constantValue := 0 }, { name := "hash", type := .int, accessFlags := 2, slot := 2, constantValue := 0 }, { name := "hashIsZero", type := .boolean, accessFlags := 2, slot := 3, constantValue := 0 }, { name := "serialVersionUID", type := .long, accessFlags := 26, slot := 0, constantValue := 0 }, { name := "COMPACT_STRINGS", type := .boolean, accessFlags := 24, slot := 1, constantValue := 0 }, { name := "serialPersistentFields", type := (.array (.object "java/io/ObjectStreamField")), accessFlags := 26, slot := 2, constantValue := 0 }, { name := "REPL", type := .char, accessFlags := 26, slot := 3, constantValue := 0 }, { name := "CASE_INSENSITIVE_ORDER", type := (.object "java/util/Comparator"), accessFlags := 25, slot := 4, constantValue := 0 }, { name := "LATIN1", type := .byte, accessFlags := 24, slot := 5, constantValue := 0 }, { name := "UTF16", type := .byte, accessFlags := 24, slot := 6, constantValue := 0 }]
  methods := #[k7m0, k7m1, k7m2, k7m3]
  instanceTypes := #[(.array .byte), .byte, .int, .boolean]
  staticTypes := #[.long, .boolean, (.array (.object "java/io/ObjectStreamField")), .char, (.object "java/util/Comparator"), .byte, .byte]
  resolved := Array.replicate 1451 none
  statics := some 0 }

def pool8 : Array CpInfo := pool [(2, .class_ 4), (1, u "java/lang/Object"), (0, u "<init>"), (0, u "()V"), (0, .class_ 8), (0, u "com/example/lexsign/lexsign/util/HexDigit"), (2, u "value"), (0, u "(C)I")] 3

def k8m0 : Method := { name := "<init>", desc := "()V", sig := { parameters := [], returnType := none }, accessFlags := 2, code := none }
def k8c1 : Code := { maxStack := 2, maxLocals := 1, code := prog_55_method_2_code, exceptionTable := #[], attributes := #[] }
def k8m1 : Method := { name := "value", desc := "(C)I", sig := { parameters := [.char], returnType := some .int }, accessFlags := 9, code := some k8c1 }
/-- com/example/lexsign/lexsign/util/HexDigit -/
def k8 : Class := { plain "com/example/lexsign/lexsign/util/HexDigit" (some 0) with
  accessFlags := 49
  interfaces := #[]
  cf := some (fileOf pool8 7 #[] #[{ accessFlags := 2, nameIndex := 5, descriptorIndex := 6, attributes := #[] }, { accessFlags := 9, nameIndex := 11, descriptorIndex := 12, attributes := #[] }] 49 2 #[] #[])
  fields := #[]
  methods := #[k8m0, k8m1]
  instanceTypes := #[]
  staticTypes := #[]
  resolved := Array.replicate 16 none
  statics := none }

def pool9 : Array CpInfo := pool [(1, .class_ 2), (0, u "java/lang/String"), (1, .class_ 6), (1, u "java/lang/Object"), (0, u "<init>"), (0, u "()V"), (0, .methodref 1 10), (0, .nameAndType 11 12), (0, u "checkIndex"), (0, u "(II)V"), (1, .class_ 16), (1, u "java/lang/StringLatin1"), (36, u "([BI)C"), (67, u "$assertionsDisabled"), (0, u "Z"), (98, .class_ 223), (1, u "java/lang/StringLatin1$LinesSpliterator"), (28, u "charAt"), (137, .class_ 391), (0, u "java/lang/StringLatin1$CharsSpliterator")] 3

def k9m0 : Method := { name := "<init>", desc := "()V", sig := { parameters := [], returnType := none }, accessFlags := 0, code := none }
def k9c1 : Code := { maxStack := 2, maxLocals := 2, code := jdk_43_method_2_code, exceptionTable := #[], attributes := #[] }
def k9m1 : Method := { name := "charAt", desc := "([BI)C", sig := { parameters := [(.array .byte), .int], returnType := some .char }, accessFlags := 9, code := some k9c1 }
/-- java/lang/StringLatin1 -/
def k9 : Class := { plain "java/lang/StringLatin1" (some 0) with
  accessFlags := 48
  interfaces := #[]
  cf := some (fileOf pool9 14 #[.nestMembers #[390, 221]] #[{ accessFlags := 0, nameIndex := 7, descriptorIndex := 8, attributes := #[] }, { accessFlags := 9, nameIndex := 252, descriptorIndex := 53, attributes := #[] }] 48 4 #[] #[{ accessFlags := 4120, nameIndex := 121, descriptorIndex := 122, attributes := #[] }])
  fields := #[{ name := "$assertionsDisabled", type := .boolean, accessFlags := 4120, slot := 0, constantValue := 0 }]
  methods := #[k9m0, k9m1]
  instanceTypes := #[]
  staticTypes := #[.boolean]
  resolved := Array.replicate 395 none
  statics := none }

def pool10 : Array CpInfo := pool [(2, .class_ 4), (1, u "java/lang/Object"), (0, u "<init>"), (0, u "()V"), (17, .class_ 26), (1, u "jdk/internal/util/Preconditions"), (6, u "checkIndex"), (21, .class_ 56), (0, u "jdk/internal/util/Preconditions$4"), (57, .class_ 115), (0, u "jdk/internal/util/Preconditions$1"), (7, u "SIOOBE_FORMATTER"), (0, u "Ljava/util/function/BiFunction;"), (0, .class_ 126), (0, u "jdk/internal/util/Preconditions$2"), (3, u "AIOOBE_FORMATTER"), (0, .class_ 132), (0, u "jdk/internal/util/Preconditions$3"), (3, u "IOOBE_FORMATTER"), (41, u "(IILjava/util/function/BiFunction;)I")] 15

def k10m0 : Method := { name := "<init>", desc := "()V", sig := { parameters := [], returnType := none }, accessFlags := 1, code := none }
def k10c1 : Code := { maxStack := 3, maxLocals := 3, code := jdk_41_method_11_code, exceptionTable := #[], attributes := #[] }
def k10m1 : Method := { name := "checkIndex", desc := "(IILjava/util/function/BiFunction;)I", sig := { parameters := [.int, .int, (.object "java/util/function/BiFunction")], returnType := some .int }, accessFlags := 9, code := some k10c1 }
/-- jdk/internal/util/Preconditions -/
def k10 : Class := { plain "jdk/internal/util/Preconditions" (some 0) with
  accessFlags := 33
  interfaces := #[]
  cf := some (fileOf pool10 24 #[.nestMembers #[55, 131, 125, 114]] #[{ accessFlags := 1, nameIndex := 5, descriptorIndex := 6, attributes := #[] }, { accessFlags := 9, nameIndex := 33, descriptorIndex := 178, attributes := #[] }] 33 2 #[] #[{ accessFlags := 25, nameIndex := 123, descriptorIndex := 124, attributes := #[] }, { accessFlags := 25, nameIndex := 130, descriptorIndex := 124, attributes := #[] }, { accessFlags := 25, nameIndex := 136, descriptorIndex := 124, attributes := #[] }])
  fields := #[{ name := "SIOOBE_FORMATTER", type := (.object "java/util/function/BiFunction"), accessFlags := 25, slot := 0, constantValue := 0 }, { name := "AIOOBE_FORMATTER", type := (.object "java/util/function/BiFunction"), accessFlags := 25, slot := 1, constantValue := 0 }, { name := "IOOBE_FORMATTER", type := (.object "java/util/function/BiFunction"), accessFlags := 25, slot := 2, constantValue := 0 }]
  methods := #[k10m0, k10m1]
  instanceTypes := #[]
  staticTypes := #[(.object "java/util/function/BiFunction"), (.object "java/util/function/BiFunction"), (.object "java/util/function/BiFunction")]
  resolved := Array.replicate 194 none
  statics := some 1 }

def pool11 : Array CpInfo := pool [(9, u "<init>"), (6, .class_ 18), (1, u "java/lang/Object"), (0, u "()V"), (1, .class_ 23), (1, u "jdk/internal/util/ArraysSupport"), (0, u "LOG2_ARRAY_LONG_INDEX_SCALE"), (0, u "I"), (2, u "U"), (0, u "Ljdk/internal/misc/Unsafe;"), (8, u "BIG_ENDIAN"), (0, u "Z"), (8, u "LOG2_BYTE_BIT_SIZE"), (4, u "LOG2_ARRAY_INT_INDEX_SCALE"), (54, u "JLA"), (0, u "Ljdk/internal/access/JavaLangAccess;"), (11, u "LOG2_ARRAY_BOOLEAN_INDEX_SCALE"), (9, u "LOG2_ARRAY_BYTE_INDEX_SCALE"), (5, u "LOG2_ARRAY_CHAR_INDEX_SCALE"), (5, u "LOG2_ARRAY_SHORT_INDEX_SCALE"), (18, u "LOG2_ARRAY_FLOAT_INDEX_SCALE"), (24, u "LOG2_ARRAY_DOUBLE_INDEX_SCALE"), (89, u "T_BOOLEAN"), (2, u "T_CHAR"), (1, u "T_FLOAT"), (1, u "T_DOUBLE"), (1, u "T_BYTE"), (1, u "T_SHORT"), (1, u "T_INT"), (1, u "T_LONG"), (1, u "SOFT_MAX_ARRAY_LENGTH")] 83

def k11m0 : Method := { name := "<init>", desc := "()V", sig := { parameters := [], returnType := none }, accessFlags := 2, code := none }
/-- jdk/internal/util/ArraysSupport -/
def k11 : Class := { plain "jdk/internal/util/ArraysSupport" (some 0) with
  accessFlags := 33
  interfaces := #[]
  cf := some (fileOf pool11 21 #[] #[{ accessFlags := 2, nameIndex := 9, descriptorIndex := 19, attributes := #[] }] 33 16 #[] #[{ accessFlags := 24, nameIndex := 28, descriptorIndex := 29, attributes := #[] }, { accessFlags := 26, nameIndex := 38, descriptorIndex := 39, attributes := #[] }, { accessFlags := 25, nameIndex := 121, descriptorIndex := 25, attributes := #[] }, { accessFlags := 25, nameIndex := 131, descriptorIndex := 25, attributes := #[] }, { accessFlags := 25, nameIndex := 137, descriptorIndex := 25, attributes := #[] }, { accessFlags := 25, nameIndex := 143, descriptorIndex := 25, attributes := #[] }, { accessFlags := 25, nameIndex := 53, descriptorIndex := 25, attributes := #[] }, { accessFlags := 25, nameIndex := 24, descriptorIndex := 25, attributes := #[] }, { accessFlags := 25, nameIndex := 162, descriptorIndex := 25, attributes := #[] }, { accessFlags := 25, nameIndex := 187, descriptorIndex := 25, attributes := #[] }, { accessFlags := 26, nameIndex := 48, descriptorIndex := 25, attributes := #[] }, { accessFlags := 25, nameIndex := 277, descriptorIndex := 25, attributes := #[] }, { accessFlags := 25, nameIndex := 280, descriptorIndex := 25, attributes := #[] }, { accessFlags := 25, nameIndex := 282, descriptorIndex := 25, attributes := #[] }, { accessFlags := 25, nameIndex := 284, descriptorIndex := 25, attributes := #[] }, { accessFlags := 25, nameIndex := 286, descriptorIndex := 25, attributes := #[] }, { accessFlags := 25, nameIndex := 288, descriptorIndex := 25, attributes := #[] }, { accessFlags := 25, nameIndex := 290, descriptorIndex := 25, attributes := #[] }, { accessFlags := 25, nameIndex := 292, descriptorIndex := 25, attributes := #[] }, { accessFlags := 26, nameIndex := 108, descriptorIndex := 109, attributes := #[] }, { accessFlags := 25, nameIndex := 294, descriptorIndex := 25, attributes := #[] }])
  fields := #[{ name := "U", type := (.object "jdk/internal/misc/Unsafe"), accessFlags := 24, slot := 0, constantValue := 0 }, { name := "BIG_ENDIAN", type := .boolean, accessFlags := 26, slot := 1, constantValue := 0 }, { name := "LOG2_ARRAY_BOOLEAN_INDEX_SCALE", type := .int, accessFlags := 25, slot := 2, constantValue := 0 }, { name := "LOG2_ARRAY_BYTE_INDEX_SCALE", type := .int, accessFlags := 25, slot := 3, constantValue := 0 }, { name := "LOG2_ARRAY_CHAR_INDEX_SCALE", type := .int, accessFlags := 25, slot := 4, constantValue := 0 }, { name := "LOG2_ARRAY_SHORT_INDEX_SCALE", type := .int, accessFlags := 25, slot := 5, constantValue := 0 }, { name := "LOG2_ARRAY_INT_INDEX_SCALE", type := .int, accessFlags := 25, slot := 6, constantValue := 0 }, { name := "LOG2_ARRAY_LONG_INDEX_SCALE", type := .int, accessFlags := 25, slot := 7, constantValue := 0 }, { name := "LOG2_ARRAY_FLOAT_INDEX_SCALE", type := .int, accessFlags := 25, slot := 8, constantValue := 0 }, { name := "LOG2_ARRAY_DOUBLE_INDEX_SCALE", type := .int, accessFlags := 25, slot := 9, constantValue := 0 }, { name := "LOG2_BYTE_BIT_SIZE", type := .int, accessFlags := 26, slot := 10, constantValue := 0 }, { name := "T_BOOLEAN", type := .int, accessFlags := 25, slot := 11, constantValue := 0 }, { name := "T_CHAR", type := .int, accessFlags := 25, slot := 12, constantValue := 0 }, { name := "T_FLOAT", type := .int, accessFlags := 25, slot := 13, constantValue := 0 }, { name := "T_DOUBLE", type := .int, accessFlags := 25, slot := 14, constantValue := 0 }, { name := "T_BYTE", type := .int, accessFlags := 25, slot := 15, constantValue := 0 }, { name := "T_SHORT", type := .int, accessFlags := 25, slot := 16, constantValue := 0 }, { name := "T_INT", type := .int, accessFlags := 25, slot := 17, constantValue := 0 }, { name := "T_LONG", type := .int, accessFlags := 25, slot := 18, constantValue := 0 }, { name := "JLA", type := (.object "jdk/internal/access/JavaLangAccess"), accessFlags := 26, slot := 19, constantValue := 0 }, { name := "SOFT_MAX_ARRAY_LENGTH", type := .int, accessFlags := 25, slot := 20, constantValue := 0 }]
  methods := #[k11m0]
  instanceTypes := #[]
  staticTypes := #[(.object "jdk/internal/misc/Unsafe"), .boolean, .int, .int, .int, .int, .int, .int, .int, .int, .int, .int, .int, .int, .int, .int, .int, .int, .int, (.object "jdk/internal/access/JavaLangAccess"), .int]
  resolved := Array.replicate 378 none
  statics := none }

def pool12 : Array CpInfo := pool [(1, u "java/lang/Cloneable"), (0, .class_ 1), (0, u "java/lang/Object"), (0, .class_ 3)] 3

/-- java/lang/Cloneable -/
def k12 : Class := { plain "java/lang/Cloneable" (some 0) with
  accessFlags := 1537
  interfaces := #[]
  cf := some (fileOf pool12 2 #[] #[] 1537 4 #[] #[])
  fields := #[]
  methods := #[]
  instanceTypes := #[]
  staticTypes := #[]
  resolved := Array.replicate 8 none
  statics := none }

/-- the primitive byte -/
def k13 : Class := { plain "byte" none with kind := .primitive 'B', accessFlags := 0x411 }
/-- [B -/
def k14 : Class := { plain "[B" (some 0) with kind := .array 13 .byte, interfaces := #[12, 2], accessFlags := 1041 }

/-- the primitive int -/
def k15 : Class := { plain "int" none with kind := .primitive 'I', accessFlags := 0x411 }
/-- [I -/
def k16 : Class := { plain "[I" (some 0) with kind := .array 15 .int, interfaces := #[12, 2], accessFlags := 1041 }

def heap : Heap := #[{ cls := 7, slots := #[.long 0, .int 1, .null, .int 0, .null, .int 0, .int 0], vm := .statics 7 },
  { cls := 10, slots := #[.null, .null, .null], vm := .statics 10 }]
def classes : Array Class := #[k0, k1, k2, k3, k4, k5, k6, k7, k8, k9, k10, k11, k12, k13, k14, k15, k16]
def interned : List (Array UInt16 × Addr) := []
def slotsUsed : Nat := 10
def theMethod : MethodId := ⟨1, 1⟩
def args0 : Array Value := #[.int 5, .int 6]
def aboutOver (below : List Frame) : State where
  vm := { classes := classes, interned := interned.toArray }
  heap := heap
  slotsUsed := slotsUsed
  threads := #[{ frames := .invoking theMethod args0 :: below }]
def below0 : List Frame := [.native { method := ⟨0, 0⟩, args := #[] }]
def about1 : State := aboutOver below0
def p0 : Program := .bare "" "" ""
def e0 : Env := launch0.env 0 0 0
theorem w_frames : about1.frames = Frame.invoking theMethod args0 :: below0 := rfl
set_option maxRecDepth 65536 in
theorem w_args : argsFit about1.vm theMethod args0 = true := by decide +kernel
set_option maxRecDepth 65536 in
theorem w_heap : heapFits about1 = true := by decide +kernel
set_option maxRecDepth 65536 in
theorem w_runnable : about1.curStatus? = some .runnable := by decide +kernel
set_option maxRecDepth 65536 in
theorem w_alone : about1.alone = true := by decide +kernel
set_option maxRecDepth 65536 in
theorem w_named : about1.methodNamed? x = some theMethod := by decide +kernel
set_option maxRecDepth 65536 in
theorem w_hears : about1.hears theMethod below0 = true := by decide +kernel
set_option maxRecDepth 65536 in
theorem w_ripe : about1.ripe theMethod args0 below0 = true := by decide +kernel
theorem w_running : about1.status = .running := rfl
set_option maxRecDepth 65536 in
theorem w_room : about1.hasRoom e0.platform room_1 = true :=
  launch0.hasRoom_least _ room_1 (by decide +kernel) (by decide +kernel) (by decide +kernel) (by decide +kernel) (by decide +kernel) (by decide +kernel)
theorem allAtoms_all (ts : List Jvm.Cond) (a : Array Jvm.Value) (st : Jvm.State) : (allAtoms ts).before a st = ts.all (fun c => c.before a st) := by
  induction ts with
  | nil => rfl
  | cons c t ih =>
    show (Jvm.Cond.and c (allAtoms t)).before a st = _
    rw [Jvm.Cond.before_and, ih, List.all_cons]
def words1 : List Jvm.Cond := Jvm.Cond.code x code maxLocals ret :: tables_1
/-- a 'code' word, met by the world's own term for the bytes: nothing is compared byte by byte -/
theorem code_word {y : MethodName} {bytes : ByteArray} {mx : Nat} {rt : Option FieldType} {a : Array Value} {s : State} {m : MethodId} {meth : Method} {c : Code} (h1 : s.methodNamed? y = some m) (h2 : s.vm.method? m = some meth) (h3 : meth.code = some c) (h4 : c.code = bytes)
    (h5 : (c.maxLocals == mx && c.exceptionTable.isEmpty && decide (c.maxStack ≤ mostOperands) && decide (meth.sig.returnType = rt) && !meth.locks && decide (parseMethodDescriptor y.desc = some meth.sig)) = true) : (Jvm.Cond.code y bytes mx rt).before a s = true := by
  simp only [Bool.and_eq_true, beq_iff_eq, Bool.not_eq_true', decide_eq_true_eq] at h5
  obtain ⟨⟨⟨⟨⟨g1, g2⟩, g3⟩, g4⟩, g5⟩, g6⟩ := h5
  simp [Cond.before, Cond.holds, Cond.value, h1, h2, h3, h4, g1, g2, g3, g4, g5, g6]
def isCode : Jvm.Cond → Bool
  | .code _ _ _ _ => true
  | _ => false
theorem all_split {L : List Jvm.Cond} {P : Jvm.Cond → Bool} (h1 : L.all (fun c => isCode c || P c) = true) (h2 : ∀ c ∈ L.filter isCode, P c = true) : L.all P = true := by
  refine List.all_eq_true.mpr fun c hc => ?_
  have h := List.all_eq_true.mp h1 c hc
  rcases Bool.eq_false_or_eq_true (isCode c) with hi | hi
  · exact h2 c (List.mem_filter.mpr ⟨hc, hi⟩)
  · simpa [hi] using h
set_option maxRecDepth 65536 in
theorem w_c0 : (Jvm.Cond.code x code maxLocals ret).before args0 about1 = true := code_word (m := ⟨1, 1⟩) (meth := k1m1) (c := k1c1) (by decide +kernel) rfl rfl rfl (by decide +kernel)
set_option maxRecDepth 65536 in
theorem w_c1 : (Jvm.Cond.code ({ cls := "com/example/lexsign/lexsign/util/HexDigit", name := "value", desc := "(C)I" } : Jvm.MethodName) prog_55_method_2_code (1 : Nat) (Option.some Jvm.ClassFile.FieldType.int)).before args0 about1 = true := code_word (m := ⟨8, 1⟩) (meth := k8m1) (c := k8c1) (by decide +kernel) rfl rfl rfl (by decide +kernel)
set_option maxRecDepth 65536 in
theorem w_c2 : (Jvm.Cond.code ({ cls := "java/lang/String", name := "charAt", desc := "(I)C" } : Jvm.MethodName) jdk_42_method_56_code (2 : Nat) (Option.some Jvm.ClassFile.FieldType.char)).before args0 about1 = true := code_word (m := ⟨7, 1⟩) (meth := k7m1) (c := k7c1) (by decide +kernel) rfl rfl rfl (by decide +kernel)
set_option maxRecDepth 65536 in
theorem w_c3 : (Jvm.Cond.code ({ cls := "java/lang/String", name := "isLatin1", desc := "()Z" } : Jvm.MethodName) jdk_42_method_154_code (1 : Nat) (Option.some Jvm.ClassFile.FieldType.boolean)).before args0 about1 = true := code_word (m := ⟨7, 2⟩) (meth := k7m2) (c := k7c2) (by decide +kernel) rfl rfl rfl (by decide +kernel)
set_option maxRecDepth 65536 in
theorem w_c4 : (Jvm.Cond.code ({ cls := "java/lang/StringLatin1", name := "charAt", desc := "([BI)C" } : Jvm.MethodName) jdk_43_method_2_code (2 : Nat) (Option.some Jvm.ClassFile.FieldType.char)).before args0 about1 = true := code_word (m := ⟨9, 1⟩) (meth := k9m1) (c := k9c1) (by decide +kernel) rfl rfl rfl (by decide +kernel)
set_option maxRecDepth 65536 in
theorem w_c5 : (Jvm.Cond.code ({ cls := "java/lang/String", name := "checkIndex", desc := "(II)V" } : Jvm.MethodName) jdk_42_method_155_code (2 : Nat) (Option.none : Option Jvm.ClassFile.FieldType)).before args0 about1 = true := code_word (m := ⟨7, 3⟩) (meth := k7m3) (c := k7c3) (by decide +kernel) rfl rfl rfl (by decide +kernel)
set_option maxRecDepth 65536 in
theorem w_c6 : (Jvm.Cond.code ({ cls := "jdk/internal/util/Preconditions", name := "checkIndex", desc := "(IILjava/util/function/BiFunction;)I" } : Jvm.MethodName) jdk_41_method_11_code (3 : Nat) (Option.some Jvm.ClassFile.FieldType.int)).before args0 about1 = true := code_word (m := ⟨10, 1⟩) (meth := k10m1) (c := k10c1) (by decide +kernel) rfl rfl rfl (by decide +kernel)
def codes1 : List Jvm.Cond := [Jvm.Cond.code x code maxLocals ret, Jvm.Cond.code ({ cls := "com/example/lexsign/lexsign/util/HexDigit", name := "value", desc := "(C)I" } : Jvm.MethodName) prog_55_method_2_code (1 : Nat) (Option.some Jvm.ClassFile.FieldType.int), Jvm.Cond.code ({ cls := "java/lang/String", name := "charAt", desc := "(I)C" } : Jvm.MethodName) jdk_42_method_56_code (2 : Nat) (Option.some Jvm.ClassFile.FieldType.char), Jvm.Cond.code ({ cls := "java/lang/String", name := "isLatin1", desc := "()Z" } : Jvm.MethodName) jdk_42_method_154_code (1 : Nat) (Option.some Jvm.ClassFile.FieldType.boolean), Jvm.Cond.code ({ cls := "java/lang/StringLatin1", name := "charAt", desc := "([BI)C" } : Jvm.MethodName) jdk_43_method_2_code (2 : Nat) (Option.some Jvm.ClassFile.FieldType.char), Jvm.Cond.code ({ cls := "java/lang/String", name := "checkIndex", desc := "(II)V" } : Jvm.MethodName) jdk_42_method_155_code (2 : Nat) (Option.none : Option Jvm.ClassFile.FieldType), Jvm.Cond.code ({ cls := "jdk/internal/util/Preconditions", name := "checkIndex", desc := "(IILjava/util/function/BiFunction;)I" } : Jvm.MethodName) jdk_41_method_11_code (3 : Nat) (Option.some Jvm.ClassFile.FieldType.int)]
set_option maxRecDepth 65536 in
theorem codes_eq : words1.filter isCode = codes1 := rfl
theorem w_codes : ∀ c ∈ words1.filter isCode, c.before args0 about1 = true := by
  rw [codes_eq]
  intro c hc
  simp only [codes1, List.mem_cons, List.not_mem_nil, or_false] at hc
  rcases hc with rfl | rfl | rfl | rfl | rfl | rfl | rfl
  · exact w_c0
  · exact w_c1
  · exact w_c2
  · exact w_c3
  · exact w_c4
  · exact w_c5
  · exact w_c6
set_option maxRecDepth 65536 in
theorem w_t1 : (words1.take 24).all (fun c => isCode c || c.before args0 about1) = true := by decide +kernel
set_option maxRecDepth 65536 in
theorem w_t2 : (words1.drop 24).all (fun c => isCode c || c.before args0 about1) = true := by decide +kernel
theorem w_tables : (allAtoms (Jvm.Cond.code x code maxLocals ret :: tables_1)).before args0 about1 = true := by
  rw [allAtoms_all]
  show words1.all (fun c => c.before args0 about1) = true
  refine all_split ?_ w_codes
  rw [← List.take_append_drop 24 words1, List.all_append, w_t1, w_t2]
  rfl
set_option maxRecDepth 65536 in
theorem w_rest : rest_1_c.before args0 about1 = true := by decide +kernel
set_option maxRecDepth 65536 in
theorem w_case : (Jvm.Cond.and given_1 narrow_1).before args0 about1 = true := by decide +kernel
set_option maxRecDepth 65536 in
theorem w_consts : constsHeld consts_1 about1 := Jvm.Lit.constsHeldB_iff.mp (by decide +kernel)
theorem w_applies : (headSpec (Jvm.Cond.code x code maxLocals ret :: tables_1) room_1).applies x e0.platform about1 = true :=
  (Spec.applies_iff w_frames).mpr ⟨w_running, w_runnable, w_alone, w_named, w_hears, w_ripe, w_room, w_tables⟩
theorem atStart : AtStart classFile x code maxLocals ret World_1 tables_1 room_1 Calls_1 rest_1 Pre_1 launch0 p0 e0 about1 theMethod args0 below0 :=
  ⟨lists_1, trivial, launch0.admits_env _ _ _, launch0.least_env, fairChoices_fair.cas, fairChoices_fair.clock, w_frames, w_args, w_heap, w_applies, ⟨w_consts, trivial⟩, w_rest, w_case⟩
end start1
theorem witness_1 : WitnessClaimed_1 := ⟨start1.p0, start1.e0, start1.about1, start1.theMethod, start1.args0, start1.below0, start1.atStart⟩
end Jvm.Pilot.@@N@@
