import JvmDerived
import JvmDerived.Pilot.@@N@@Statement
import JvmDerived.Pilot.@@N@@Code
set_option linter.unusedVariables false
set_option linter.unusedSimpArgs false
@@BLOCK:NumsL.lean.txt@@
namespace Jvm.Pilot.@@N@@
open Jvm Jvm.ClassFile Sem Op Lib Jvm.Free Jvm.Stand Jvm.LawKit Jvm.RoadKit Bundle Jvm.Pilot.@@N@@.Jvm.D
/-! A MACHINE THAT CAN BE EVALUATED, over tokens: `.ref n` stands for the reference ρ n, `.retAddr n` for the int σ n, `.double n` for the long τ n. -/
section OwnMachine
def own_val (ρ : Nat → Addr) (σ : Nat → Int32) (τ : Nat → Int64) : Value → Value
  | .ref a => .ref (ρ a)
  | .retAddr n => .int (σ n)
  | .double b => .long (τ b.toNat)
  | v => v
def own_slot (ρ : Nat → Addr) (σ : Nat → Int32) (τ : Nat → Int64) : Slot → Slot
  | .val v => .val (own_val ρ σ τ v)
  | .unset => .unset
  | .second => .second
def own_isI : Value → Bool
  | .int _ => true
  | .retAddr _ => true
  | _ => false
def own_isL : Value → Bool
  | .long _ => true
  | .double _ => true
  | _ => false
def own_same (N : Nat) : Value → Value → Option Bool
  | .ref a, .ref b => if a < N ∧ b < N then some (decide (a = b)) else none
  | .null, .null => some true
  | .ref _, .null => some false
  | .null, .ref _ => some false
  | _, _ => none
def own_jmp (pc : Nat) (o : Int) : Option Nat := if 0 ≤ (pc : Int) + o then some ((pc : Int) + o).toNat else none
def own_put (ls : List Slot) (k : Nat) (v : Value) : Option (List Slot) :=
  if v.category = 1 then
    match ls[k]? with
    | some .unset => some (ls.set k (.val v))
    | some (.val w) => if w.category = 1 then some (ls.set k (.val v)) else none
    | _ => none
  else none
def own_dec1 (O : Jvm.ClassFile.Cond → Nat → Int32 → Option Bool) (cd : Jvm.ClassFile.Cond) : Value → Option Bool
  | .int x => some (ifCond.holds cd x)
  | .retAddr n => O cd n 0
  | _ => none
def own_dec2 (O : Jvm.ClassFile.Cond → Nat → Int32 → Option Bool) (cd : Jvm.ClassFile.Cond) : Value → Value → Option Bool
  | .int x, .int y => some (if_icmp.holds cd x y)
  | .retAddr n, .int y => O cd n y
  | _, _ => none
def own_step (N : Nat) (O : Jvm.ClassFile.Cond → Nat → Int32 → Option Bool) (i : Instr) (len pc : Nat) (ls : List Slot) (st : List Value) : Option (Nat × List Slot × List Value) :=
  match i with
  | .aload_n k => match ls[k.val]? with
    | some (.val v) => if len = 1 ∧ v.isRef = true then some (pc + 1, ls, v :: st) else none
    | _ => none
  | .aload k => match ls[k]? with
    | some (.val v) => if len = 2 ∧ v.isRef = true then some (pc + 2, ls, v :: st) else none
    | _ => none
  | .iload_n k => match ls[k.val]? with
    | some (.val v) => if len = 1 ∧ own_isI v = true then some (pc + 1, ls, v :: st) else none
    | _ => none
  | .iload k => match ls[k]? with
    | some (.val v) => if len = 2 ∧ own_isI v = true then some (pc + 2, ls, v :: st) else none
    | _ => none
  | .lload_n k => match ls[k.val]? with
    | some (.val v) => if len = 1 ∧ own_isL v = true then some (pc + 1, ls, v :: st) else none
    | _ => none
  | .lload k => match ls[k]? with
    | some (.val v) => if len = 2 ∧ own_isL v = true then some (pc + 2, ls, v :: st) else none
    | _ => none
  | .iconst z => if len = 1 then some (pc + 1, ls, .int (Int32.ofInt z) :: st) else none
  | .bipush z => if len = 2 then some (pc + 2, ls, .int (Int8.ofInt z).toInt32 :: st) else none
  | .sipush z => if len = 3 then some (pc + 3, ls, .int (Int16.ofInt z).toInt32 :: st) else none
  | .aconst_null => if len = 1 then some (pc + 1, ls, .null :: st) else none
  | .iadd => match st with
    | .int y :: .int x :: rest => if len = 1 then some (pc + 1, ls, .int (x + y) :: rest) else none
    | _ => none
  | .isub => match st with
    | .int y :: .int x :: rest => if len = 1 then some (pc + 1, ls, .int (x - y) :: rest) else none
    | _ => none
  | .iand => match st with
    | .int y :: .int x :: rest => if len = 1 then some (pc + 1, ls, .int (x &&& y) :: rest) else none
    | _ => none
  | .irem => match st with
    | .int y :: .int x :: rest => if len = 1 ∧ y ≠ 0 then some (pc + 1, ls, .int (x % y) :: rest) else none
    | _ => none
  | .imul => match st with
    | .int y :: .int x :: rest => if len = 1 then some (pc + 1, ls, .int (x * y) :: rest) else none
    | _ => none
  | .ior => match st with
    | .int y :: .int x :: rest => if len = 1 then some (pc + 1, ls, .int (x ||| y) :: rest) else none
    | _ => none
  | .ixor => match st with
    | .int y :: .int x :: rest => if len = 1 then some (pc + 1, ls, .int (x ^^^ y) :: rest) else none
    | _ => none
  | .ishr => match st with
    | .int y :: .int x :: rest => if len = 1 then some (pc + 1, ls, .int (x >>> (y &&& 31)) :: rest) else none
    | _ => none
  | .iushr => match st with
    | .int y :: .int x :: rest => if len = 1 then some (pc + 1, ls, .int (XT.ushr x y) :: rest) else none
    | _ => none
  | .ladd => match st with
    | .long y :: .long x :: rest => if len = 1 then some (pc + 1, ls, .long (x + y) :: rest) else none
    | _ => none
  | .lsub => match st with
    | .long y :: .long x :: rest => if len = 1 then some (pc + 1, ls, .long (x - y) :: rest) else none
    | _ => none
  | .lmul => match st with
    | .long y :: .long x :: rest => if len = 1 then some (pc + 1, ls, .long (x * y) :: rest) else none
    | _ => none
  | .ldiv => match st with
    | .long y :: .long x :: rest => if len = 1 ∧ y ≠ 0 then some (pc + 1, ls, .long (x / y) :: rest) else none
    | _ => none
  | .lcmp => match st with
    | .long y :: .long x :: rest => if len = 1 then some (pc + 1, ls, .int (XT.cmpL x y) :: rest) else none
    | _ => none
  | .i2l => match st with
    | .int x :: rest => if len = 1 then some (pc + 1, ls, .long x.toInt64 :: rest) else none
    | _ => none
  | .l2i => match st with
    | .long x :: rest => if len = 1 then some (pc + 1, ls, .int x.toInt32 :: rest) else none
    | _ => none
  | .lneg => match st with
    | .long x :: rest => if len = 1 then some (pc + 1, ls, .long (-x) :: rest) else none
    | _ => none
  | .i2b => match st with
    | .int x :: rest => if len = 1 then some (pc + 1, ls, .int x.toInt8.toInt32 :: rest) else none
    | _ => none
  | .lconst k => if len = 1 then some (pc + 1, ls, .long (Int64.ofNat k) :: st) else none
  | .iinc k z => match ls[k]? with
    | some (.val (.int v)) => if len = 3 then (own_put ls k (.int (v + Int32.ofInt z))).map fun l => (pc + 3, l, st) else none
    | _ => none
  | .dup => match st with
    | v :: rest => if len = 1 ∧ v.category = 1 then some (pc + 1, ls, v :: v :: rest) else none
    | _ => none
  | .pop => match st with
    | v :: rest => if len = 1 ∧ v.category = 1 then some (pc + 1, ls, rest) else none
    | _ => none
  | .istore_n k => match st with
    | v :: rest => if len = 1 ∧ own_isI v = true then (own_put ls k.val v).map fun l => (pc + 1, l, rest) else none
    | _ => none
  | .istore k => match st with
    | v :: rest => if len = 2 ∧ own_isI v = true then (own_put ls k v).map fun l => (pc + 2, l, rest) else none
    | _ => none
  | .astore_n k => match st with
    | v :: rest => if len = 1 ∧ v.isRef = true then (own_put ls k.val v).map fun l => (pc + 1, l, rest) else none
    | _ => none
  | .astore k => match st with
    | v :: rest => if len = 2 ∧ v.isRef = true then (own_put ls k v).map fun l => (pc + 2, l, rest) else none
    | _ => none
  | .goto o => if len = 3 then (own_jmp pc o).map fun q => (q, ls, st) else none
  | .ifCond cd o => match st with
    | v :: rest => match own_dec1 O cd v with
      | some true => if len = 3 then (own_jmp pc o).map fun q => (q, ls, rest) else none
      | some false => if len = 3 then some (pc + 3, ls, rest) else none
      | none => none
    | _ => none
  | .if_icmp cd o => match st with
    | y :: x :: rest => match own_dec2 O cd x y with
      | some true => if len = 3 then (own_jmp pc o).map fun q => (q, ls, rest) else none
      | some false => if len = 3 then some (pc + 3, ls, rest) else none
      | none => none
    | _ => none
  | .if_acmp cd o => match st with
    | y :: x :: rest => match own_same N x y with
      | some b => if len = 3 ∧ 0 ≤ (pc : Int) + o then some (if acV cd b = true then ((pc : Int) + o).toNat else pc + 3, ls, rest) else none
      | none => none
    | _ => none
  | .ifnull o => match st with
    | .null :: rest => if len = 3 then (own_jmp pc o).map fun q => (q, ls, rest) else none
    | .ref _ :: rest => if len = 3 then some (pc + 3, ls, rest) else none
    | _ => none
  | .ifnonnull o => match st with
    | .ref _ :: rest => if len = 3 then (own_jmp pc o).map fun q => (q, ls, rest) else none
    | .null :: rest => if len = 3 then some (pc + 3, ls, rest) else none
    | _ => none
  | .tableswitch dflt low high offs => match st with
    | .int x :: rest => if x.toInt < low ∨ x.toInt > high then (own_jmp pc dflt).map fun q => (q, ls, rest) else match offs[(x.toInt - low).toNat]? with
      | some o => (own_jmp pc o).map fun q => (q, ls, rest)
      | none => none
    | _ => none
  | _ => none
def own_look {α : Type} : List (Nat × α) → Nat → Option α
  | [], _ => none
  | q :: r, n => if q.1 = n then some q.2 else own_look r n
theorem own_look_mem {α : Type} : ∀ {L : List (Nat × α)} {n : Nat} {a : α}, own_look L n = some a → (n, a) ∈ L
  | [], _, _, h => by cases h
  | q :: r, n, a, h => by
    unfold own_look at h
    split at h
    · rename_i hq; cases h; subst hq; exact List.mem_cons_self
    · exact List.mem_cons_of_mem _ (own_look_mem h)
abbrev own_Hook := List Slot → List Value → Option (Nat × List Value)
def own_retOk (ret : Option FieldType) (i : Instr) (len : Nat) (v : Value) : Bool :=
  match ret, i, v with
  | some t, .ireturn, .int z => decide (len = 1) && decide (narrow t (.int z) = .int z) && (decide (t = .int) || decide (t = .boolean) || decide (t = .byte) || decide (t = .char) || decide (t = .short))
  | some t, .ireturn, .retAddr _ => decide (len = 1) && decide (t = .int)
  | some t, .lreturn, .long _ => decide (len = 1) && decide (t = .long)
  | some t, .lreturn, .double _ => decide (len = 1) && decide (t = .long)
  | some t, .areturn, .ref _ => decide (len = 1) && t.isReference
  | some t, .areturn, .null => decide (len = 1) && t.isReference
  | _, _, _ => false
def own_run (N : Nat) (O : Jvm.ClassFile.Cond → Nat → Int32 → Option Bool) (code : ByteArray) (hooks : List (Nat × own_Hook)) (ret : Option FieldType) : Nat → Nat → List Slot → List Value → Option Value
  | 0, _, _, _ => none
  | n + 1, pc, ls, st => match own_look hooks pc with
    | some F => match F ls st with
      | some q => own_run N O code hooks ret n q.1 ls q.2
      | none => none
    | none => match decode code pc with
      | .ok (i, len) => match st with
        | v :: rest => if own_retOk ret i len v = true then some v else match own_step N O i len pc ls st with
          | some q => own_run N O code hooks ret n q.1 q.2.1 q.2.2
          | none => none
        | [] => match own_step N O i len pc ls [] with
          | some q => own_run N O code hooks ret n q.1 q.2.1 q.2.2
          | none => none
      | .error _ => none
def own_entry (maxL : Nat) (as : List Value) : List Slot :=
  let f := as.flatMap fun v => if v.category = 2 then [.val v, .second] else [.val v]
  f ++ List.replicate (maxL - f.length) .unset
end OwnMachine
section OwnSound
variable {ρ : Nat → Addr} {σ : Nat → Int32} {τ : Nat → Int64}
theorem own_cat (v : Value) : (own_val ρ σ τ v).category = v.category := by cases v <;> rfl
theorem own_isRef {v : Value} (h : v.isRef = true) : (own_val ρ σ τ v).isRef = true := by cases v <;> simp_all [Value.isRef, own_val]
theorem own_int {v : Value} (h : own_isI v = true) : ∃ z, own_val ρ σ τ v = .int z := by cases v <;> simp_all [own_isI, own_val]
theorem own_long {v : Value} (h : own_isL v = true) : ∃ z, own_val ρ σ τ v = .long z := by cases v <;> simp_all [own_isL, own_val]
abbrev own_ls (ρ : Nat → Addr) (σ : Nat → Int32) (τ : Nat → Int64) (ls : List Slot) : Array Slot := (ls.map (own_slot ρ σ τ)).toArray
abbrev own_st (ρ : Nat → Addr) (σ : Nat → Int32) (τ : Nat → Int64) (st : List Value) : List Value := st.map (own_val ρ σ τ)
theorem own_get {ls : List Slot} {k : Nat} {v : Value} (h : ls[k]? = some (.val v)) : (own_ls ρ σ τ ls)[k]? = some (.val (own_val ρ σ τ v)) := by
  simp [own_ls, h, own_slot]
theorem own_put_ok {ls ls' : List Slot} {k : Nat} {v : Value} (h : own_put ls k v = some ls') : storeLocals (own_ls ρ σ τ ls) k (own_val ρ σ τ v) = some (own_ls ρ σ τ ls') := by
  unfold own_put at h
  split at h
  · rename_i hv
    have hv' : (own_val ρ σ τ v).category = 1 := by rw [own_cat]; exact hv
    have key : ∀ o : Slot, ls[k]? = some o → (o = .unset ∨ ∃ w, o = .val w ∧ w.category = 1) → some (ls.set k (.val v)) = some ls' → storeLocals (own_ls ρ σ τ ls) k (own_val ρ σ τ v) = some (own_ls ρ σ τ ls') := by
      intro o ho hc he
      cases he
      have h1 : (own_ls ρ σ τ ls)[k]? = some (own_slot ρ σ τ o) := by simp [own_ls, ho]
      rw [XS.store1 h1 ?_ hv']
      · simp [own_ls, own_slot]
      · rcases hc with rfl | ⟨w, rfl, hw⟩
        · exact Or.inl rfl
        · exact Or.inr ⟨_, rfl, by rw [own_cat]; exact hw⟩
    split at h
    · rename_i ho; exact key _ ho (Or.inl rfl) h
    · rename_i w ho
      split at h
      · rename_i hw; exact key _ ho (Or.inr ⟨w, rfl, hw⟩) h
      · cases h
    · cases h
  · cases h
theorem own_put_len {ls ls' : List Slot} {k : Nat} {v : Value} (h : own_put ls k v = some ls') : ls'.length = ls.length := by
  unfold own_put at h
  split at h
  · split at h
    · cases h; simp
    · split at h
      · cases h; simp
      · cases h
    · cases h
  · cases h
theorem own_same_ok {N : Nat} (hinj : ∀ a b, a < N → b < N → ρ a = ρ b → a = b) {x y : Value} {b : Bool} (h : own_same N x y = some b) :
    (own_val ρ σ τ x).isRef = true ∧ (own_val ρ σ τ y).isRef = true ∧ decide (own_val ρ σ τ x = own_val ρ σ τ y) = b := by
  unfold own_same at h
  split at h
  · rename_i a b'
    split at h
    · rename_i hN
      cases h
      refine ⟨rfl, rfl, ?_⟩
      by_cases q : a = b'
      · subst q; simp
      · have : ρ a ≠ ρ b' := fun e => q (hinj _ _ hN.1 hN.2 e)
        simp [own_val, q, this]
    · cases h
  · cases h; exact ⟨rfl, rfl, by simp⟩
  · cases h; exact ⟨rfl, rfl, by simp [own_val]⟩
  · cases h; exact ⟨rfl, rfl, by simp [own_val]⟩
  · cases h
theorem own_dec1_ok {O : Jvm.ClassFile.Cond → Nat → Int32 → Option Bool} (hO : ∀ cd n z b, O cd n z = some b → if_icmp.holds cd (σ n) z = b) {cd : Jvm.ClassFile.Cond} {v : Value} {b : Bool} (h : own_dec1 O cd v = some b) : ∃ z, own_val ρ σ τ v = .int z ∧ ifCond.holds cd z = b := by
  unfold own_dec1 at h
  split at h
  · cases h; exact ⟨_, rfl, rfl⟩
  · rename_i n
    have q := hO _ _ _ _ h
    exact ⟨σ n, rfl, by rw [← q]; cases cd <;> rfl⟩
  · cases h
theorem own_dec2_ok {O : Jvm.ClassFile.Cond → Nat → Int32 → Option Bool} (hO : ∀ cd n z b, O cd n z = some b → if_icmp.holds cd (σ n) z = b) {cd : Jvm.ClassFile.Cond} {v w : Value} {b : Bool} (h : own_dec2 O cd v w = some b) : ∃ z z', own_val ρ σ τ v = .int z ∧ own_val ρ σ τ w = .int z' ∧ if_icmp.holds cd z z' = b := by
  unfold own_dec2 at h
  split at h
  · cases h; exact ⟨_, _, rfl, rfl, rfl⟩
  · exact ⟨_, _, rfl, rfl, hO _ _ _ _ h⟩
  · cases h
theorem own_jmp_ok {pc q : Nat} {o : Int} (h : own_jmp pc o = some q) : 0 ≤ (pc : Int) + o ∧ ((pc : Int) + o).toNat = q := by
  unfold own_jmp at h
  split at h
  · rename_i hp; cases h; exact ⟨hp, rfl⟩
  · cases h
variable {p : Program} {l : Launch} {e : Env} {R : Room} {s : State} {m : MethodId} {args : Array Value} {below : List Frame} {meth : Method} {c : Code} {T : State} {locs : List Loc} {cells slots : Nat}
theorem own_step_ok {N : Nat} {O : Jvm.ClassFile.Cond → Nat → Int32 → Option Bool} (hinj : ∀ a b, a < N → b < N → ρ a = ρ b → a = b) (hO : ∀ cd n z b, O cd n z = some b → if_icmp.holds cd (σ n) z = b) (X : Stand p l e R s m args below meth c T locs cells slots) (hx : p.tables.exec = Jvm.exec) {i : Instr} {len pc pc' : Nat} {ls ls' : List Slot} {st st' : List Value} (hd : decode c.code pc = .ok (i, len)) (h : own_step N O i len pc ls st = some (pc', ls', st')) :
    ls'.length = ls.length ∧ ∀ target, Steps p.tables e below (T.setTop (mkF m pc' (own_ls ρ σ τ ls') (own_st ρ σ τ st'))) target → Steps p.tables e below (T.setTop (mkF m pc (own_ls ρ σ τ ls) (own_st ρ σ τ st))) target := by
  unfold own_step at h
  split at h
  · -- aload_n
    split at h
    · rename_i v hv
      split at h
      · rename_i hc; obtain ⟨rfl, hr⟩ := hc; cases h
        exact ⟨rfl, fun target k => XS.aloadN X.here hx rfl hd (own_get hv) (own_isRef hr) k⟩
      · cases h
    · cases h
  · split at h
    · rename_i v hv
      split at h
      · rename_i hc; obtain ⟨rfl, hr⟩ := hc; cases h
        exact ⟨rfl, fun target k => XS.aload X.here hx rfl hd (own_get hv) (own_isRef hr) k⟩
      · cases h
    · cases h
  · split at h
    · rename_i v hv
      split at h
      · rename_i hc; obtain ⟨rfl, hr⟩ := hc; cases h
        obtain ⟨z, hz⟩ := own_int (ρ := ρ) (σ := σ) (τ := τ) hr
        exact ⟨rfl, fun target k => XS.iloadN X.here hx rfl hd (hz ▸ own_get hv) (by rw [← hz]; exact k)⟩
      · cases h
    · cases h
  · split at h
    · rename_i v hv
      split at h
      · rename_i hc; obtain ⟨rfl, hr⟩ := hc; cases h
        obtain ⟨z, hz⟩ := own_int (ρ := ρ) (σ := σ) (τ := τ) hr
        exact ⟨rfl, fun target k => XS.iload X.here hx rfl hd (hz ▸ own_get hv) (by rw [← hz]; exact k)⟩
      · cases h
    · cases h
  · split at h
    · rename_i v hv
      split at h
      · rename_i hc; obtain ⟨rfl, hr⟩ := hc; cases h
        obtain ⟨z, hz⟩ := own_long (ρ := ρ) (σ := σ) (τ := τ) hr
        exact ⟨rfl, fun target k => XS.lloadN X.here hx rfl hd (hz ▸ own_get hv) (by rw [← hz]; exact k)⟩
      · cases h
    · cases h
  · split at h
    · rename_i v hv
      split at h
      · rename_i hc; obtain ⟨rfl, hr⟩ := hc; cases h
        obtain ⟨z, hz⟩ := own_long (ρ := ρ) (σ := σ) (τ := τ) hr
        exact ⟨rfl, fun target k => XS.lload X.here hx rfl hd (hz ▸ own_get hv) (by rw [← hz]; exact k)⟩
      · cases h
    · cases h
  · -- iconst
    split at h
    · rename_i hc; subst hc; cases h
      exact ⟨rfl, fun target k => XS.iconst X.here hx rfl hd k⟩
    · cases h
  · split at h
    · rename_i hc; subst hc; cases h
      exact ⟨rfl, fun target k => XS.bipush X.here hx rfl hd k⟩
    · cases h
  · split at h
    · rename_i hc; subst hc; cases h
      exact ⟨rfl, fun target k => XS.sipush X.here hx rfl hd k⟩
    · cases h
  · split at h
    · rename_i hc; subst hc; cases h
      exact ⟨rfl, fun target k => XS.aconstNull X.here hx rfl hd k⟩
    · cases h
  · -- iadd
    split at h
    · split at h
      · rename_i hc; subst hc; cases h
        exact ⟨rfl, fun target k => XS.iadd X.here hx rfl hd rfl k⟩
      · cases h
    · cases h
  · split at h
    · split at h
      · rename_i hc; subst hc; cases h
        exact ⟨rfl, fun target k => XS.isub X.here hx rfl hd rfl k⟩
      · cases h
    · cases h
  · split at h
    · split at h
      · rename_i hc; subst hc; cases h
        exact ⟨rfl, fun target k => XS.iand X.here hx rfl hd rfl k⟩
      · cases h
    · cases h
  · split at h
    · split at h
      · rename_i hc; obtain ⟨rfl, hy⟩ := hc; cases h
        exact ⟨rfl, fun target k => iremM X hx rfl hd rfl hy k⟩
      · cases h
    · cases h
  · split at h
    · split at h
      · rename_i hc; subst hc; cases h
        exact ⟨rfl, fun target k => XS.imul X.here hx rfl hd rfl k⟩
      · cases h
    · cases h
  · split at h
    · split at h
      · rename_i hc; subst hc; cases h
        exact ⟨rfl, fun target k => XT.ior X.here hx rfl hd rfl k⟩
      · cases h
    · cases h
  · split at h
    · split at h
      · rename_i hc; subst hc; cases h
        exact ⟨rfl, fun target k => XT.ixor X.here hx rfl hd rfl k⟩
      · cases h
    · cases h
  · split at h
    · split at h
      · rename_i hc; subst hc; cases h
        exact ⟨rfl, fun target k => XT.ishr X.here hx rfl hd rfl k⟩
      · cases h
    · cases h
  · split at h
    · split at h
      · rename_i hc; subst hc; cases h
        exact ⟨rfl, fun target k => XT.iushr X.here hx rfl hd rfl k⟩
      · cases h
    · cases h
  · split at h
    · split at h
      · rename_i hc; subst hc; cases h
        exact ⟨rfl, fun target k => XT.ladd X.here hx rfl hd rfl k⟩
      · cases h
    · cases h
  · split at h
    · split at h
      · rename_i hc; subst hc; cases h
        exact ⟨rfl, fun target k => XT.lsub X.here hx rfl hd rfl k⟩
      · cases h
    · cases h
  · split at h
    · split at h
      · rename_i hc; subst hc; cases h
        exact ⟨rfl, fun target k => XT.lmul X.here hx rfl hd rfl k⟩
      · cases h
    · cases h
  · split at h
    · split at h
      · rename_i hc; obtain ⟨rfl, hy⟩ := hc; cases h
        exact ⟨rfl, fun target k => XT.ldiv X.here hx rfl hd rfl hy k⟩
      · cases h
    · cases h
  · split at h
    · split at h
      · rename_i hc; subst hc; cases h
        exact ⟨rfl, fun target k => XT.lcmp X.here hx rfl hd rfl k⟩
      · cases h
    · cases h
  · split at h
    · split at h
      · rename_i hc; subst hc; cases h
        exact ⟨rfl, fun target k => XT.i2l X.here hx rfl hd rfl k⟩
      · cases h
    · cases h
  · split at h
    · split at h
      · rename_i hc; subst hc; cases h
        exact ⟨rfl, fun target k => XT.l2i X.here hx rfl hd rfl k⟩
      · cases h
    · cases h
  · split at h
    · split at h
      · rename_i hc; subst hc; cases h
        exact ⟨rfl, fun target k => XT.lneg X.here hx rfl hd rfl k⟩
      · cases h
    · cases h
  · split at h
    · split at h
      · rename_i hc; subst hc; cases h
        exact ⟨rfl, fun target k => XT.i2b X.here hx rfl hd rfl k⟩
      · cases h
    · cases h
  · split at h
    · rename_i hc; subst hc; cases h
      exact ⟨rfl, fun target k => XT.lconst X.here hx rfl hd k⟩
    · cases h
  · split at h
    · rename_i v hv
      split at h
      · rename_i hc; subst hc
        obtain ⟨l2, h2, h3⟩ := Option.map_eq_some_iff.mp h
        cases h3
        exact ⟨own_put_len h2, fun target k => XS.iinc X.here hx rfl hd (own_get hv) (own_put_ok (ρ := ρ) (σ := σ) (τ := τ) h2) k⟩
      · cases h
    · cases h
  · -- dup
    split at h
    · split at h
      · rename_i hc; obtain ⟨rfl, hy⟩ := hc; cases h
        exact ⟨rfl, fun target k => XS.dup X.here hx rfl hd rfl (by rw [own_cat]; exact hy) k⟩
      · cases h
    · cases h
  · split at h
    · split at h
      · rename_i hc; obtain ⟨rfl, hy⟩ := hc; cases h
        exact ⟨rfl, fun target k => XS.pop X.here hx rfl hd rfl (by rw [own_cat]; exact hy) k⟩
      · cases h
    · cases h
  · -- istore_n
    split at h
    · split at h
      · rename_i hc; obtain ⟨rfl, hr⟩ := hc
        obtain ⟨l2, h2, h3⟩ := Option.map_eq_some_iff.mp h
        cases h3
        obtain ⟨z, hz⟩ := own_int (ρ := ρ) (σ := σ) (τ := τ) hr
        exact ⟨own_put_len h2, fun target k => XS.istoreN X.here hx rfl hd (by show own_val ρ σ τ _ :: _ = _; rw [hz]) (hz ▸ own_put_ok h2) k⟩
      · cases h
    · cases h
  · split at h
    · split at h
      · rename_i hc; obtain ⟨rfl, hr⟩ := hc
        obtain ⟨l2, h2, h3⟩ := Option.map_eq_some_iff.mp h
        cases h3
        obtain ⟨z, hz⟩ := own_int (ρ := ρ) (σ := σ) (τ := τ) hr
        exact ⟨own_put_len h2, fun target k => XS.istore X.here hx rfl hd (by show own_val ρ σ τ _ :: _ = _; rw [hz]) (hz ▸ own_put_ok h2) k⟩
      · cases h
    · cases h
  · split at h
    · split at h
      · rename_i hc; obtain ⟨rfl, hr⟩ := hc
        obtain ⟨l2, h2, h3⟩ := Option.map_eq_some_iff.mp h
        cases h3
        exact ⟨own_put_len h2, fun target k => XS.astoreN X.here hx rfl hd rfl (own_isRef hr) (own_put_ok h2) k⟩
      · cases h
    · cases h
  · split at h
    · split at h
      · rename_i hc; obtain ⟨rfl, hr⟩ := hc
        obtain ⟨l2, h2, h3⟩ := Option.map_eq_some_iff.mp h
        cases h3
        exact ⟨own_put_len h2, fun target k => XS.astore X.here hx rfl hd rfl (own_isRef hr) (own_put_ok h2) k⟩
      · cases h
    · cases h
  · -- goto
    split at h
    · rename_i hc; subst hc
      obtain ⟨q, h2, h3⟩ := Option.map_eq_some_iff.mp h
      cases h3
      obtain ⟨j1, j2⟩ := own_jmp_ok h2
      exact ⟨rfl, fun target k => XS.goto X.here hx rfl rfl hd j1 j2 k⟩
    · cases h
  · -- ifCond
    split at h
    · split at h
      · rename_i hb
        obtain ⟨z, hz, hq⟩ := own_dec1_ok (ρ := ρ) (τ := τ) hO hb
        split at h
        · rename_i hc; subst hc
          obtain ⟨q, h2, h3⟩ := Option.map_eq_some_iff.mp h
          cases h3
          obtain ⟨j1, j2⟩ := own_jmp_ok h2
          exact ⟨rfl, fun target k => XS.ifYes X.here hx rfl rfl hd (by show own_val ρ σ τ _ :: _ = _; rw [hz]) hq j1 j2 k⟩
        · cases h
      · rename_i hb
        obtain ⟨z, hz, hq⟩ := own_dec1_ok (ρ := ρ) (τ := τ) hO hb
        split at h
        · rename_i hc; subst hc; cases h
          exact ⟨rfl, fun target k => XS.ifNo X.here hx rfl hd (by show own_val ρ σ τ _ :: _ = _; rw [hz]) hq k⟩
        · cases h
      · cases h
    · cases h
  · split at h
    · split at h
      · rename_i hb
        obtain ⟨z, z', hz, hz', hq⟩ := own_dec2_ok (ρ := ρ) (τ := τ) hO hb
        split at h
        · rename_i hc; subst hc
          obtain ⟨q, h2, h3⟩ := Option.map_eq_some_iff.mp h
          cases h3
          obtain ⟨j1, j2⟩ := own_jmp_ok h2
          exact ⟨rfl, fun target k => XS.icmpYes X.here hx rfl rfl hd (by show own_val ρ σ τ _ :: own_val ρ σ τ _ :: _ = _; rw [hz, hz']) hq j1 j2 k⟩
        · cases h
      · rename_i hb
        obtain ⟨z, z', hz, hz', hq⟩ := own_dec2_ok (ρ := ρ) (τ := τ) hO hb
        split at h
        · rename_i hc; subst hc; cases h
          exact ⟨rfl, fun target k => XS.icmpNo X.here hx rfl hd (by show own_val ρ σ τ _ :: own_val ρ σ τ _ :: _ = _; rw [hz, hz']) hq k⟩
        · cases h
      · cases h
    · cases h
  · -- if_acmp
    split at h
    · split at h
      · rename_i b hb
        split at h
        · rename_i hc; obtain ⟨rfl, hj⟩ := hc; cases h
          obtain ⟨r1, r2, r3⟩ := own_same_ok (σ := σ) (τ := τ) hinj hb
          exact ⟨rfl, fun target k => acmp X hx rfl r1 r2 rfl hd rfl r3 hj rfl k⟩
        · cases h
      · cases h
    · cases h
  · -- ifnull
    split at h
    · split at h
      · rename_i hc; subst hc
        obtain ⟨q, h2, h3⟩ := Option.map_eq_some_iff.mp h
        cases h3
        obtain ⟨j1, j2⟩ := own_jmp_ok h2
        exact ⟨rfl, fun target k => XS.ifnullYes X.here hx rfl rfl hd rfl j1 j2 k⟩
      · cases h
    · split at h
      · rename_i hc; subst hc; cases h
        exact ⟨rfl, fun target k => XS.ifnullNo X.here hx rfl hd rfl k⟩
      · cases h
    · cases h
  · split at h
    · split at h
      · rename_i hc; subst hc
        obtain ⟨q, h2, h3⟩ := Option.map_eq_some_iff.mp h
        cases h3
        obtain ⟨j1, j2⟩ := own_jmp_ok h2
        exact ⟨rfl, fun target k => XS.ifnonnullYes X.here hx rfl rfl hd rfl j1 j2 k⟩
      · cases h
    · split at h
      · rename_i hc; subst hc; cases h
        exact ⟨rfl, fun target k => XS.ifnonnullNo X.here hx rfl hd rfl k⟩
      · cases h
    · cases h
  · -- tableswitch
    split at h
    · split at h
      · rename_i ho
        obtain ⟨q, h2, h3⟩ := Option.map_eq_some_iff.mp h
        cases h3
        obtain ⟨j1, j2⟩ := own_jmp_ok h2
        exact ⟨rfl, fun target k => XS.tswOut X.here hx rfl rfl hd rfl ho j1 j2 k⟩
      · rename_i hin
        split at h
        · rename_i o ho
          obtain ⟨q, h2, h3⟩ := Option.map_eq_some_iff.mp h
          cases h3
          obtain ⟨j1, j2⟩ := own_jmp_ok h2
          exact ⟨rfl, fun target k => XS.tswIn X.here hx rfl rfl hd rfl hin ho j1 j2 k⟩
        · cases h
    · cases h
  · cases h
def own_Goes (p : Program) (l : Launch) (e : Env) (R : Room) (s : State) (m : MethodId) (args : Array Value) (below : List Frame) (meth : Method) (c : Code) (locs : List Loc) (cells slots : Nat) (h : Heap) (f f' : JFrame) : Prop :=
  ∀ T, Stand p l e R s m args below meth c T locs cells slots → T.heap = h → ∃ T', Stand p l e R s m args below meth c T' locs cells slots ∧ T'.heap = h ∧ ∀ target, Steps p.tables e below (T'.setTop f') target → Steps p.tables e below (T.setTop f) target
theorem own_Goes.trans {h : Heap} {f f' f'' : JFrame} (a : own_Goes p l e R s m args below meth c locs cells slots h f f') (b : own_Goes p l e R s m args below meth c locs cells slots h f' f'') : own_Goes p l e R s m args below meth c locs cells slots h f f'' := by
  intro T X eT
  obtain ⟨T1, X1, e1, k1⟩ := a T X eT
  obtain ⟨T2, X2, e2, k2⟩ := b T1 X1 e1
  exact ⟨T2, X2, e2, fun t k => k1 t (k2 t k)⟩
theorem own_ret_ok (X : Stand p l e R s m args below meth c T locs cells slots) (hx : p.tables.exec = Jvm.exec) {ret : Option FieldType} (hret : meth.sig.returnType = ret) {i : Instr} {len pc : Nat} {Ls : Array Slot} {v : Value} {rest : List Value} (hd : decode c.code pc = .ok (i, len)) (h : own_retOk ret i len v = true) {fs : List Frame}
    (hl : ∀ (f : JFrame) (acts : List Action), f.method = m → f.locked = none → f.entered = [] → (doReturn e (T.setTop f) acts (some (own_val ρ σ τ v))).1 = T.setFrames fs) :
    Steps p.tables e below (T.setTop (mkF m pc Ls (own_val ρ σ τ v :: rest))) (T.setFrames fs) := by
  unfold own_retOk at h
  split at h
  · simp only [Bool.and_eq_true, Bool.or_eq_true, decide_eq_true_eq] at h
    obtain ⟨⟨rfl, hn⟩, ht⟩ := h
    exact retOut X hx hret hn (Or.inl ⟨rfl, by rcases ht with (((h | h) | h) | h) | h <;> simp [h], _, rfl⟩) hd hl
  · simp only [Bool.and_eq_true, decide_eq_true_eq] at h
    obtain ⟨rfl, rfl⟩ := h
    exact retOut X hx hret rfl (Or.inl ⟨rfl, Or.inl rfl, _, rfl⟩) hd hl
  · simp only [Bool.and_eq_true, decide_eq_true_eq] at h
    obtain ⟨rfl, rfl⟩ := h
    exact retOut X hx hret rfl (Or.inr (Or.inl ⟨rfl, rfl, _, rfl⟩)) hd hl
  · simp only [Bool.and_eq_true, decide_eq_true_eq] at h
    obtain ⟨rfl, rfl⟩ := h
    exact retOut X hx hret rfl (Or.inr (Or.inl ⟨rfl, rfl, _, rfl⟩)) hd hl
  · simp only [Bool.and_eq_true, decide_eq_true_eq] at h
    obtain ⟨rfl, ht⟩ := h
    refine retOut X hx hret ?_ (Or.inr (Or.inr (Or.inr (Or.inr ⟨rfl, ht, rfl⟩)))) hd hl
    rename_i t a
    cases t <;> first | rfl | cases ht
  · simp only [Bool.and_eq_true, decide_eq_true_eq] at h
    obtain ⟨rfl, ht⟩ := h
    refine retOut X hx hret ?_ (Or.inr (Or.inr (Or.inr (Or.inr ⟨rfl, ht, rfl⟩)))) hd hl
    rename_i t
    cases t <;> first | rfl | cases ht
  · cases h
/-- the machine's run is the JVM's -/
theorem own_run_ok {N : Nat} {O : Jvm.ClassFile.Cond → Nat → Int32 → Option Bool} (hinj : ∀ a b, a < N → b < N → ρ a = ρ b → a = b) (hO : ∀ cd n z b, O cd n z = some b → if_icmp.holds cd (σ n) z = b) (hx : p.tables.exec = Jvm.exec) {code : ByteArray} (hby : c.code = code) {ret : Option FieldType} (hret : meth.sig.returnType = ret) {h : Heap} {hooks : List (Nat × own_Hook)}
    (hok : ∀ q ∈ hooks, ∀ ls st r, ls.length = c.maxLocals → q.2 ls st = some r → own_Goes p l e R s m args below meth c locs cells slots h (mkF m q.1 (own_ls ρ σ τ ls) (own_st ρ σ τ st)) (mkF m r.1 (own_ls ρ σ τ ls) (own_st ρ σ τ r.2))) :
    ∀ (n pc : Nat) (ls : List Slot) (st : List Value) (v : Value), own_run N O code hooks ret n pc ls st = some v → ls.length = c.maxLocals → ∀ T, Stand p l e R s m args below meth c T locs cells slots → T.heap = h →
      ∃ T', Stand p l e R s m args below meth c T' locs cells slots ∧ T'.heap = h ∧ ∀ fs, (∀ (f : JFrame) (acts : List Action), f.method = m → f.locked = none → f.entered = [] → (doReturn e (T'.setTop f) acts (some (own_val ρ σ τ v))).1 = T'.setFrames fs) →
        Steps p.tables e below (T.setTop (mkF m pc (own_ls ρ σ τ ls) (own_st ρ σ τ st))) (T'.setFrames fs)
  | 0, _, _, _, _, h, _, _, _, _ => by cases h
  | n + 1, pc, ls, st, v, hr, hl, T, X, eT => by
    unfold own_run at hr
    split at hr
    · rename_i F hF
      split at hr
      · rename_i q hq
        obtain ⟨T1, X1, e1, k1⟩ := hok _ (own_look_mem hF) ls st q hl hq T X eT
        obtain ⟨T2, X2, e2, k2⟩ := own_run_ok hinj hO hx hby hret hok n q.1 ls q.2 v hr hl T1 X1 e1
        exact ⟨T2, X2, e2, fun fs hfs => k1 _ (k2 fs hfs)⟩
      · cases hr
    · split at hr
      · rename_i i len hd
        have hd' : decode c.code pc = .ok (i, len) := hb hby hd
        have go : ∀ q, own_step N O i len pc ls st = some q → own_run N O code hooks ret n q.1 q.2.1 q.2.2 = some v → ∃ T', Stand p l e R s m args below meth c T' locs cells slots ∧ T'.heap = h ∧ ∀ fs, (∀ (f : JFrame) (acts : List Action), f.method = m → f.locked = none → f.entered = [] → (doReturn e (T'.setTop f) acts (some (own_val ρ σ τ v))).1 = T'.setFrames fs) →
            Steps p.tables e below (T.setTop (mkF m pc (own_ls ρ σ τ ls) (own_st ρ σ τ st))) (T'.setFrames fs) := fun q hq hr' => by
          obtain ⟨pc', ls', st'⟩ := q
          obtain ⟨l1, k1⟩ := own_step_ok (ρ := ρ) (σ := σ) (τ := τ) hinj hO X hx hd' hq
          obtain ⟨T2, X2, e2, k2⟩ := own_run_ok hinj hO hx hby hret hok n pc' ls' st' v hr' (l1.trans hl) T X eT
          exact ⟨T2, X2, e2, fun fs hfs => k1 _ (k2 fs hfs)⟩
        split at hr
        · split at hr
          · rename_i ho
            cases hr
            exact ⟨T, X, eT, fun fs hfs => own_ret_ok X hx hret hd' ho hfs⟩
          · split at hr
            · rename_i q hq; exact go q hq hr
            · cases hr
        · split at hr
          · rename_i q hq; exact go q hq hr
          · cases hr
      · cases hr
end OwnSound
section OwnHooks
variable {ρ : Nat → Addr} {σ : Nat → Int32} {τ : Nat → Int64} {Z : State} {a0 : Array Value} {h : Heap}
variable {p : Program} {l : Launch} {e : Env} {R : Room} {s : State} {m : MethodId} {args : Array Value} {below : List Frame} {meth : Method} {c : Code}
/-- a hook is true of the JVM -/
def own_HookOk (ρ : Nat → Addr) (σ : Nat → Int32) (τ : Nat → Int64) (p : Program) (l : Launch) (e : Env) (R : Room) (s : State) (m : MethodId) (args : Array Value) (below : List Frame) (meth : Method) (c : Code) (h : Heap) (q : Nat × own_Hook) : Prop :=
  ∀ ls st r, ls.length = c.maxLocals → q.2 ls st = some r → own_Goes p l e R s m args below meth c [] 0 0 h (mkF m q.1 (own_ls ρ σ τ ls) (own_st ρ σ τ st)) (mkF m r.1 (own_ls ρ σ τ ls) (own_st ρ σ τ r.2))
theorem own_pure {f f' : JFrame} (k : ∀ T, Stand p l e R s m args below meth c T [] 0 0 → ∀ target, Steps p.tables e below (T.setTop f') target → Steps p.tables e below (T.setTop f) target) : own_Goes p l e R s m args below meth c [] 0 0 h f f' := fun T X eT => ⟨T, X, eT, k T X⟩
/-- getstatic -/
def own_hS (pc : Nat) (v : Value) : Nat × own_Hook := (pc, fun _ st => some (pc + 3, v :: st))
theorem own_hS_ok (hx : p.tables.exec = Jvm.exec) (hZ : Z.Warmed39 s.vm) {own C n d : String} {index pc : Nat} (hown : s.vm.findClass own = some m.cls) (w : (Cond.fieldLink own index C n d).before a0 Z = true) {v : Value} (F : Sta Z h C n d (own_val ρ σ τ v)) (hd : decode c.code pc = .ok (.getstatic index, 3)) :
    own_HookOk ρ σ τ p l e R s m args below meth c h (own_hS pc v) := by
  intro ls st r hl hr T X eT
  cases hr
  exact getS (host := "") X hx hZ hown w Via.refl eT F (g := mkF m pc (own_ls ρ σ τ ls) (own_st ρ σ τ st)) rfl hd
/-- ldc of an int -/
def own_hK (pc : Nat) (z : Int32) : Nat × own_Hook := (pc, fun _ st => some (pc + 2, .int z :: st))
theorem own_hK_ok (hx : p.tables.exec = Jvm.exec) (hZ : Z.Warmed39 s.vm) {own : String} {index pc : Nat} {z : Int32} (hown : s.vm.findClass own = some m.cls) (w : (Cond.constant own index z).before a0 Z = true) (hd : decode c.code pc = .ok (.ldc index, 2)) :
    own_HookOk ρ σ τ p l e R s m args below meth c h (own_hK pc z) := by
  intro ls st r hl hr
  cases hr
  exact own_pure fun T X => X.ldcInt hx hown (mvT hZ w) (g := mkF m pc (own_ls ρ σ τ ls) (own_st ρ σ τ st)) rfl hd
/-- getfield, of objects that are known -/
def own_hF (pc : Nat) (g : Nat → Option Value) : Nat × own_Hook := (pc, fun _ st => match st with
  | .ref t :: rest => (g t).map fun v => (pc + 3, v :: rest)
  | _ => none)
theorem own_hF_ok (hx : p.tables.exec = Jvm.exec) (hZ : Z.Warmed39 s.vm) {own C n d : String} {index pc : Nat} (hown : s.vm.findClass own = some m.cls) (w : (Cond.fieldLink own index C n d).before a0 Z = true) {g : Nat → Option Value} (F : ∀ t v, g t = some v → Fld Z h (ρ t) C n d (own_val ρ σ τ v)) (hd : decode c.code pc = .ok (.getfield index, 3)) :
    own_HookOk ρ σ τ p l e R s m args below meth c h (own_hF pc g) := by
  intro ls st r hl hr T X eT
  unfold own_hF at hr
  simp only at hr
  split at hr
  · rename_i t rest
    obtain ⟨v, h1, h2⟩ := Option.map_eq_some_iff.mp hr
    cases h2
    exact getF X hx hZ hown (host := "") (Or.inl w) Via.refl eT (F t v h1) (g := mkF m pc (own_ls ρ σ τ ls) (own_st ρ σ τ (.ref t :: rest))) rfl rfl hd
  · cases hr
/-- one step on what lies on the stack, told by its worth: the top `pre` becomes `post` -/
def own_hX (pc : Nat) (pre : List Value) (pc' : Nat) (post : List Value) : Nat × own_Hook := (pc, fun _ st => if st.take pre.length = pre then some (pc', post ++ st.drop pre.length) else none)
theorem own_hX_ok {pc pc' : Nat} {pre post : List Value} (k : ∀ ls rest, own_Goes p l e R s m args below meth c [] 0 0 h (mkF m pc ls (own_st ρ σ τ pre ++ rest)) (mkF m pc' ls (own_st ρ σ τ post ++ rest))) :
    own_HookOk ρ σ τ p l e R s m args below meth c h (own_hX pc pre pc' post) := by
  intro ls st r hl hr
  unfold own_hX at hr
  simp only at hr
  split at hr
  · rename_i hp
    cases hr
    have e1 : own_st ρ σ τ st = own_st ρ σ τ pre ++ own_st ρ σ τ (st.drop pre.length) := by
      rw [← List.map_append]; conv => lhs; rw [← List.take_append_drop pre.length st, hp]
    have e2 : own_st ρ σ τ (post ++ st.drop pre.length) = own_st ρ σ τ post ++ own_st ρ σ τ (st.drop pre.length) := List.map_append
    show own_Goes p l e R s m args below meth c [] 0 0 h (mkF m pc (own_ls ρ σ τ ls) (own_st ρ σ τ st)) (mkF m pc' (own_ls ρ σ τ ls) (own_st ρ σ τ (post ++ st.drop pre.length)))
    rw [e1, e2]
    exact k _ _
  · cases hr
theorem own_iand_ok (hx : p.tables.exec = Jvm.exec) {pc : Nat} {a b z : Value} {x y : Int32} (ha : own_val ρ σ τ a = .int x) (hb : own_val ρ σ τ b = .int y) (hz : own_val ρ σ τ z = .int (x &&& y)) (hd : decode c.code pc = .ok (.iand, 1)) :
    own_HookOk ρ σ τ p l e R s m args below meth c h (own_hX pc [b, a] (pc + 1) [z]) :=
  own_hX_ok fun ls rest => own_pure fun T X target k => XS.iand X.here hx rfl (x := x) (y := y) hd (rest := rest) (by simp [own_st, ha, hb]) (by simpa [own_st, hz] using k)
theorem own_irem_ok (hx : p.tables.exec = Jvm.exec) {pc : Nat} {a b z : Value} {x y : Int32} (ha : own_val ρ σ τ a = .int x) (hb : own_val ρ σ τ b = .int y) (hy : y ≠ 0) (hz : own_val ρ σ τ z = .int (x % y)) (hd : decode c.code pc = .ok (.irem, 1)) :
    own_HookOk ρ σ τ p l e R s m args below meth c h (own_hX pc [b, a] (pc + 1) [z]) :=
  own_hX_ok fun ls rest => own_pure fun T X target k => iremM X hx rfl (x := x) (y := y) hd (rest := rest) (by simp [own_st, ha, hb]) hy (by simpa [own_st, hz] using k)
theorem own_lcmp_ok (hx : p.tables.exec = Jvm.exec) {pc : Nat} {a b z : Value} {x y : Int64} (ha : own_val ρ σ τ a = .long x) (hb : own_val ρ σ τ b = .long y) (hz : own_val ρ σ τ z = .int (XT.cmpL x y)) (hd : decode c.code pc = .ok (.lcmp, 1)) :
    own_HookOk ρ σ τ p l e R s m args below meth c h (own_hX pc [b, a] (pc + 1) [z]) :=
  own_hX_ok fun ls rest => own_pure fun T X target k => XT.lcmp X.here hx rfl (x := x) (y := y) hd (rest := rest) (by simp [own_st, ha, hb]) (by simpa [own_st, hz] using k)
theorem own_lushr_ok (hx : p.tables.exec = Jvm.exec) {pc : Nat} {a b z : Value} {x : Int64} {y : Int32} (ha : own_val ρ σ τ a = .long x) (hb : own_val ρ σ τ b = .int y) (hz : own_val ρ σ τ z = .long (XT.ushrL x y)) (hd : decode c.code pc = .ok (.lushr, 1)) :
    own_HookOk ρ σ τ p l e R s m args below meth c h (own_hX pc [b, a] (pc + 1) [z]) :=
  own_hX_ok fun ls rest => own_pure fun T X target k => XT.lushr X.here hx rfl (x := x) (y := y) hd (rest := rest) (by simp [own_st, ha, hb]) (by simpa [own_st, hz] using k)
theorem own_l2i_ok (hx : p.tables.exec = Jvm.exec) {pc : Nat} {a z : Value} {x : Int64} (ha : own_val ρ σ τ a = .long x) (hz : own_val ρ σ τ z = .int x.toInt32) (hd : decode c.code pc = .ok (.l2i, 1)) :
    own_HookOk ρ σ τ p l e R s m args below meth c h (own_hX pc [a] (pc + 1) [z]) :=
  own_hX_ok fun ls rest => own_pure fun T X target k => XT.l2i X.here hx rfl (x := x) hd (rest := rest) (by simp [own_st, ha]) (by simpa [own_st, hz] using k)
theorem own_i2l_ok (hx : p.tables.exec = Jvm.exec) {pc : Nat} {a z : Value} {x : Int32} (ha : own_val ρ σ τ a = .int x) (hz : own_val ρ σ τ z = .long x.toInt64) (hd : decode c.code pc = .ok (.i2l, 1)) :
    own_HookOk ρ σ τ p l e R s m args below meth c h (own_hX pc [a] (pc + 1) [z]) :=
  own_hX_ok fun ls rest => own_pure fun T X target k => XT.i2l X.here hx rfl (x := x) hd (rest := rest) (by simp [own_st, ha]) (by simpa [own_st, hz] using k)
/-- what a method's contract says: it returns v, and the heap is as it was -/
abbrev own_Met (Z : State) (h : Heap) (l : Launch) (y : MethodName) (bytes : ByteArray) (maxL : Nat) (ret : Option FieldType) (rm : Room) (as : List Value) (v : Value) : Prop :=
  MetFree l y (head1 [Jvm.Cond.code y bytes maxL ret] rm) (fun a U => a = as.toArray ∧ Z.Warmed39 U.vm ∧ U.heap = h) (fun _ _ _ _ _ => True) (fun _ U o U' => ∃ v' L, o = .returned v' ∧ (v' = some v ∧ L = [] ∧ U'.heap = h) ∧ FrameEnd U o U' L rm.cells rm.slots)
/-- invokestatic by the callee's contract -/
def own_hC (pc n W : Nat) (φ : List Value → Option Value) : Nat × own_Hook := (pc, fun _ st => if n ≤ st.length ∧ ((st.drop n).map fun v => v.category).sum ≤ W then (φ (st.take n).reverse).map fun v => (pc + 3, v :: st.drop n) else none)
theorem own_sum (L : List Value) : ((own_st ρ σ τ L).map fun v => v.category) = L.map fun v => v.category := by simp [own_st, own_cat]
theorem own_hC_ok (hx : p.tables.exec = Jvm.exec) (hZ : Z.Warmed39 s.vm) {own : String} {index pc n W : Nat} (hown : s.vm.findClass own = some m.cls) {y : MethodName} {bytes : ByteArray} {maxL : Nat} {ret : Option FieldType} {rm : Room}
    (wl : (Cond.methodLink own index y).before a0 Z = true) (ws : (Cond.static y).before a0 Z = true) (wi : (Cond.initialized y.cls).before a0 Z = true) (wc : (Cond.code y bytes maxL ret).before a0 Z = true) (hy : y.cls ≠ "java/lang/invoke/MethodHandle" ∧ y.cls ≠ "java/lang/invoke/VarHandle")
    {ps : List FieldType} {rt : Option FieldType} (pd : parseMethodDescriptor y.desc = some ⟨ps, rt⟩) (hn : n = ps.length) (hrc : rm.cells = 0) (hrs : rm.slots = 0) (hfr : rm.frames + 1 ≤ R.frames) (hlo : W + (maxL + 11) + rm.locals ≤ R.locals)
    {φ : List Value → Option Value} (hM : ∀ as v, φ as = some v → own_Met Z h l y bytes maxL ret rm (as.map (own_val ρ σ τ)) (own_val ρ σ τ v)) (hd : decode c.code pc = .ok (.invokestatic index, 3)) :
    own_HookOk ρ σ τ p l e R s m args below meth c h (own_hC pc n W φ) := by
  intro ls st r hl hr T X eT
  unfold own_hC at hr
  simp only at hr
  split at hr
  · rename_i hg
    obtain ⟨v, h1, h2⟩ := Option.map_eq_some_iff.mp hr
    cases h2
    have hlen : ((st.take n).reverse.map (own_val ρ σ τ)).length = ps.length := by simp [hg.1, ← hn]
    have hst : own_st ρ σ τ st = ((st.take n).reverse.map (own_val ρ σ τ)).reverse ++ own_st ρ σ τ (st.drop n) := by
      rw [← List.map_reverse, List.reverse_reverse, ← List.map_append, List.take_append_drop]
    obtain ⟨v', vm1, ⟨T', L', k', n'⟩, hw1, X', ⟨L, ⟨rfl, rfl, hh⟩, q1, q2, q3⟩, stp⟩ := Jvm.LawKit.callS X hx hown (mvT hZ wl) (mvT hZ ws) (mvT hZ wi) (mvT hZ wc) hy (backOf (Q := fun v' h' L => v' = some (own_val ρ σ τ v) ∧ L = [] ∧ h' = h) (W := W) (hM _ _ h1) hZ wc wi hfr hlo)
      (g := mkF m pc (own_ls ρ σ τ ls) (own_st ρ σ τ st)) rfl (by simpa using hl) (argsL := (st.take n).reverse.map (own_val ρ σ τ)) (rest := own_st ρ σ τ (st.drop n)) (lenOf pd hlen) hst (by show 2 * 0 + _ ≤ _; rw [own_sum]; omega) hd (fun _ _ => ⟨rfl, eT, by show 0 + rm.cells ≤ _; rw [hrc]; exact Nat.zero_le _, by show 0 + rm.slots ≤ _; rw [hrs]; exact Nat.zero_le _⟩)
    dsimp only [Pt.U, Pt.locs, Pt.cells, Pt.slots] at X' hh q1 q2 q3 stp
    subst q1 q2 q3
    rw [hrc, hrs] at X'
    exact ⟨T', X', hh, stp⟩
  · cases hr
/-- invokevirtual on an object of the known class by the contract of the method that is selected -/
def own_hV (pc n W N : Nat) (φ : List Value → Option Value) : Nat × own_Hook := (pc, fun _ st => match st.drop n with
  | .ref t :: rest => if t < N ∧ n ≤ st.length ∧ (rest.map fun v => v.category).sum ≤ W then (φ (.ref t :: (st.take n).reverse)).map fun v => (pc + 3, v :: rest) else none
  | _ => none)
theorem own_hV_ok (hx : p.tables.exec = Jvm.exec) (hZ : Z.Warmed39 s.vm) {own C : String} {index pc n W N : Nat} (hown : s.vm.findClass own = some m.cls) {y : MethodName} {bytes : ByteArray} {maxL : Nat} {ret : Option FieldType} {rm : Room}
    (wl : (Cond.methodLink own index y).before a0 Z = true) (wd : (Cond.declares y).before a0 Z = true) (wsel : (Cond.selects C y y).before a0 Z = true) (wm : (Cond.instanceMethod y).before a0 Z = true) (wi : (Cond.initialized y.cls).before a0 Z = true) (wc : (Cond.code y bytes maxL ret).before a0 Z = true) (hy : y.cls ≠ "java/lang/invoke/MethodHandle" ∧ y.cls ≠ "java/lang/invoke/VarHandle")
    (hE : ∀ t, t < N → Exa Z h (ρ t) C)
    {ps : List FieldType} {rt : Option FieldType} (pd : parseMethodDescriptor y.desc = some ⟨ps, rt⟩) (hn : n = ps.length) (hrc : rm.cells = 0) (hrs : rm.slots = 0) (hfr : rm.frames + 1 ≤ R.frames) (hlo : W + (maxL + 11) + rm.locals ≤ R.locals)
    {φ : List Value → Option Value} (hM : ∀ as v, φ as = some v → own_Met Z h l y bytes maxL ret rm (as.map (own_val ρ σ τ)) (own_val ρ σ τ v)) (hd : decode c.code pc = .ok (.invokevirtual index, 3)) :
    own_HookOk ρ σ τ p l e R s m args below meth c h (own_hV pc n W N φ) := by
  intro ls st r hl hr T X eT
  unfold own_hV at hr
  simp only at hr
  split at hr
  · rename_i t rest hdr
    split at hr
    · rename_i hg
      obtain ⟨v, h1, h2⟩ := Option.map_eq_some_iff.mp hr
      cases h2
      have hlen : ((st.take n).reverse.map (own_val ρ σ τ)).length = ps.length := by simp [hg.2.1, ← hn]
      have hst : own_st ρ σ τ st = ((st.take n).reverse.map (own_val ρ σ τ)).reverse ++ .ref (ρ t) :: own_st ρ σ τ rest := by
        rw [← List.map_reverse, List.reverse_reverse]
        conv => lhs; rw [← List.take_append_drop n st, hdr]
        simp [own_st, own_val]
      obtain ⟨cq, kq, qa, qb, qc⟩ := isOf hZ eT (hE t hg.1)
      obtain ⟨v', vm1, ⟨T', L', k', n'⟩, hw1, X', ⟨L, ⟨rfl, rfl, hh⟩, q1, q2, q3⟩, stp⟩ := X.virtualBack hx (y := y) (z := y) hown (mvT hZ wl) (mvT hZ wd) (notFace_of_selects (args := #[]) (mvT hZ wsel)) (mvT hZ wsel) (mvT hZ wm) hy
        (backOf (Q := fun v' h' L => v' = some (own_val ρ σ τ v) ∧ L = [] ∧ h' = h) (W := W) (hM _ _ h1) hZ wc wi hfr hlo) qa qc
        (g := mkF m pc (own_ls ρ σ τ ls) (own_st ρ σ τ st)) rfl (by simpa using hl) (Steps.refl _) (argsL := (st.take n).reverse.map (own_val ρ σ τ)) (rest := own_st ρ σ τ rest) (lenOf pd hlen) hst (by show 2 * 0 + _ ≤ _; rw [own_sum]; omega) hd (fun _ _ => ⟨rfl, eT, by show 0 + rm.cells ≤ _; rw [hrc]; exact Nat.zero_le _, by show 0 + rm.slots ≤ _; rw [hrs]; exact Nat.zero_le _⟩)
      dsimp only [Pt.U, Pt.locs, Pt.cells, Pt.slots] at X' hh q1 q2 q3 stp
      subst q1 q2 q3
      rw [hrc, hrs] at X'
      exact ⟨T', X', hh, fun _ k => stp.trans k⟩
    · cases hr
  · cases hr
theorem own_hVU_ok (hx : p.tables.exec = Jvm.exec) (hZ : Z.Warmed39 s.vm) {own C owner : String} {index pc n W N : Nat} (hown : s.vm.findClass own = some m.cls) {x y : MethodName} {bytes : ByteArray} {maxL : Nat} {ret : Option FieldType} {rm : Room}
    (wl : (Cond.methodLink own index x).before a0 Z = true) (wsm : (Cond.sameMethod x.cls owner x.name x.desc).before a0 Z = true) (wd : (Cond.declares ⟨owner, x.name, x.desc⟩).before a0 Z = true) (wsel : (Cond.selects C x y).before a0 Z = true) (wm : (Cond.instanceMethod y).before a0 Z = true) (wi : (Cond.initialized y.cls).before a0 Z = true) (wc : (Cond.code y bytes maxL ret).before a0 Z = true) (hy : owner ≠ "java/lang/invoke/MethodHandle" ∧ owner ≠ "java/lang/invoke/VarHandle")
    (hE : ∀ t, t < N → Exa Z h (ρ t) C)
    {ps : List FieldType} {rt : Option FieldType} (pd : parseMethodDescriptor x.desc = some ⟨ps, rt⟩) (hn : n = ps.length) (hrc : rm.cells = 0) (hrs : rm.slots = 0) (hfr : rm.frames + 1 ≤ R.frames) (hlo : W + (maxL + 11) + rm.locals ≤ R.locals)
    {φ : List Value → Option Value} (hM : ∀ as v, φ as = some v → own_Met Z h l y bytes maxL ret rm (as.map (own_val ρ σ τ)) (own_val ρ σ τ v)) (hd : decode c.code pc = .ok (.invokevirtual index, 3)) :
    own_HookOk ρ σ τ p l e R s m args below meth c h (own_hV pc n W N φ) := by
  intro ls st r hl hr T X eT
  unfold own_hV at hr
  simp only at hr
  split at hr
  · rename_i t rest hdr
    split at hr
    · rename_i hg
      obtain ⟨v, h1, h2⟩ := Option.map_eq_some_iff.mp hr
      cases h2
      have hlen : ((st.take n).reverse.map (own_val ρ σ τ)).length = ps.length := by simp [hg.2.1, ← hn]
      have hst : own_st ρ σ τ st = ((st.take n).reverse.map (own_val ρ σ τ)).reverse ++ .ref (ρ t) :: own_st ρ σ τ rest := by
        rw [← List.map_reverse, List.reverse_reverse]
        conv => lhs; rw [← List.take_append_drop n st, hdr]
        simp [own_st, own_val]
      obtain ⟨cq, kq, qa, qb, qc⟩ := isOf hZ eT (hE t hg.1)
      obtain ⟨v', vm1, ⟨T', L', k', n'⟩, hw1, X', ⟨L, ⟨rfl, rfl, hh⟩, q1, q2, q3⟩, stp⟩ := X.virtualBackUp hx (x := x) (y := y) hown (mvT hZ wl) (mvT hZ wsm) (mvT hZ wd) hy (mvT hZ wsel) (mvT hZ wm)
        (backOf (Q := fun v' h' L => v' = some (own_val ρ σ τ v) ∧ L = [] ∧ h' = h) (W := W) (hM _ _ h1) hZ wc wi hfr hlo) qa qc
        (g := mkF m pc (own_ls ρ σ τ ls) (own_st ρ σ τ st)) rfl (by simpa using hl) (Steps.refl _) (argsL := (st.take n).reverse.map (own_val ρ σ τ)) (rest := own_st ρ σ τ rest) (lenOf pd hlen) hst (by show 2 * 0 + _ ≤ _; rw [own_sum]; omega) hd (fun _ _ => ⟨rfl, eT, by show 0 + rm.cells ≤ _; rw [hrc]; exact Nat.zero_le _, by show 0 + rm.slots ≤ _; rw [hrs]; exact Nat.zero_le _⟩)
      dsimp only [Pt.U, Pt.locs, Pt.cells, Pt.slots] at X' hh q1 q2 q3 stp
      subst q1 q2 q3
      rw [hrc, hrs] at X'
      exact ⟨T', X', hh, fun _ k => stp.trans k⟩
    · cases hr
  · cases hr
theorem own_fold (L : List Value) : ∀ acc : Array Slot, (L.foldl (fun (acc : Array Slot) (v : Value) => if v.category = 2 then (acc.push (.val v)).push .second else acc.push (.val v)) acc).toList = acc.toList ++ L.flatMap fun v => if v.category = 2 then [.val v, .second] else [.val v] := by
  induction L with
  | nil => intro acc; simp
  | cons v L ih =>
    intro acc
    rw [List.foldl_cons, ih, List.flatMap_cons]
    split <;> simp
theorem own_entry_ok {maxL : Nat} {as : List Value} : entryFrame m (as.map (own_val ρ σ τ)).toArray maxL = mkF m 0 (own_ls ρ σ τ (own_entry maxL as)) (own_st ρ σ τ []) := by
  have e1 : ((as.map (own_val ρ σ τ)).flatMap fun v => if v.category = 2 then [Slot.val v, .second] else [.val v]) = (as.flatMap fun v => if v.category = 2 then [Slot.val v, .second] else [.val v]).map (own_slot ρ σ τ) := by
    induction as with
    | nil => rfl
    | cons v L ih =>
      simp only [List.map_cons, List.flatMap_cons, List.map_append, ih, own_cat]
      split <;> simp [own_slot]
  have e2 : argsToLocals (as.map (own_val ρ σ τ)).toArray maxL = own_ls ρ σ τ (own_entry maxL as) := by
    apply Array.ext'
    have q := own_fold (as.map (own_val ρ σ τ)) #[]
    simp only [argsToLocals, List.foldl_toArray', List.size_toArray, Array.toList_append, Array.toList_replicate, own_ls, own_entry] at *
    have q2 := congrArg List.length q
    simp only [Array.length_toList] at q2
    rw [q, q2, e1]
    simp [own_slot]
  simp only [entryFrame, mkF, e2, own_st, List.map_nil]
theorem own_run_none {N : Nat} {O : Jvm.ClassFile.Cond → Nat → Int32 → Option Bool} {code : ByteArray} {hooks : List (Nat × own_Hook)} : ∀ (n pc : Nat) (ls : List Slot) (st : List Value) (v : Value), own_run N O code hooks none n pc ls st ≠ some v
  | 0, _, _, _, _ => by intro q; cases q
  | n + 1, pc, ls, st, v => by
    intro hr
    unfold own_run at hr
    split at hr
    · split at hr
      · exact own_run_none n _ _ _ _ hr
      · cases hr
    · split at hr
      · split at hr
        · split at hr
          · rename_i ho; simp [own_retOk] at ho
          · split at hr
            · exact own_run_none n _ _ _ _ hr
            · cases hr
        · split at hr
          · exact own_run_none n _ _ _ _ hr
          · cases hr
      · cases hr
/-- A METHOD's CONTRACT, by the machine's run over its bytes -/
theorem own_met {N : Nat} {O : Jvm.ClassFile.Cond → Nat → Int32 → Option Bool} (hinj : ∀ a b, a < N → b < N → ρ a = ρ b → a = b) (hO : ∀ cd n z b, O cd n z = some b → if_icmp.holds cd (σ n) z = b) {y : MethodName} {bytes : ByteArray} {maxL : Nat} {ret : Option FieldType} {rm : Room} (ws : List Jvm.Cond) (hname : plainName y.cls = true) {hooks : List (Nat × own_Hook)} {n : Nat}
    (hok : ∀ (p : Program) (e : Env) (s : State) (m : MethodId) (args : Array Value) (below : List Frame) (meth : Method) (c : Code), p.tables.exec = Jvm.exec → Z.Warmed39 s.vm → s.vm.findClass y.cls = some m.cls → c.code = bytes → ∀ q ∈ hooks, own_HookOk ρ σ τ p l e rm s m args below meth c h q)
    (as : List Value) (v : Value) (hmax : (own_entry maxL as).length = maxL) (hrun : own_run N O bytes hooks ret n 0 (own_entry maxL as) [] = some v) :
    MetFree l y (head1 (Jvm.Cond.code y bytes maxL ret :: ws) rm) (fun a U => a = (as.map (own_val ρ σ τ)).toArray ∧ Z.Warmed39 U.vm ∧ U.heap = h) (fun _ _ _ _ _ => True) (fun _ U o U' => ∃ v' L, o = .returned v' ∧ (v' = some (own_val ρ σ τ v) ∧ L = [] ∧ U'.heap = h) ∧ FrameEnd U o U' L rm.cells rm.slots) := by
  refine MetFree.of_bodySF (plainFor_of_name hname) hisR ?_
  intro p e s m args below meth c s₁ Bd hml0 hP hK
  obtain ⟨rfl, hZ, hh⟩ := hP
  have hx := Bd.exec
  have hown : s.vm.findClass y.cls = some m.cls := findClass_of_methodNamed Bd.named
  have X0 : Stand p l e rm s m (as.map (own_val ρ σ τ)).toArray below meth c s₁ [] 0 0 := Stand.of_body Bd
  have e0 : s₁.heap = h := by rw [← hh, Bd.state]; rfl
  obtain ⟨T, X, eT, k⟩ := own_run_ok (ρ := ρ) (σ := σ) (τ := τ) hinj hO hx Bd.bytes Bd.returns (hooks := hooks) (h := h) (fun q hq ls st r h1 h2 => hok p e s m _ below meth c hx hZ hown Bd.bytes q hq ls st r h1 h2) n 0 (own_entry maxL as) [] v hrun (by rw [hmax, hml0]) s₁ X0 e0
  obtain ⟨fs, hr, hrun', hended, hW, hsame⟩ := X.leave (v := some (own_val ρ σ τ v)) (fun q => by
    rw [Bd.returns] at q
    subst q
    exact absurd hrun (own_run_none n _ _ _ _))
  exact ⟨_, _, castTop own_entry_ok (k fs hr), hrun', hended, _, _, rfl, ⟨rfl, rfl, eT⟩, ⟨_, rfl⟩, hW, hsame.mono (Nat.zero_le _) (Nat.zero_le _)⟩
end OwnHooks
section OwnFacts
variable {Z : State} {args : Array Value} {h : Heap}
theorem own_exa {t : Term} {C : String} (hx : (Cond.exactly t C).before args Z = true) : ∃ a, t.eval args Z none [] Z = some (.ref a) ∧ Exa Z Z.heap a C := by
  obtain ⟨a, c, cell, k, e1, -⟩ := Cond.exactly_spec hx
  exact ⟨a, e1, Exa.start e1 (Cond.before_iff.mp hx)⟩
theorem own_fldI {t : Term} {O n d : String} {z : Int32} {a : Addr} (ev : t.eval args Z none [] Z = some (.ref a)) (hq : (Cond.eq (.field t O n d) (.int z)).before args Z = true) : Fld Z Z.heap a O n d (.int z) := by
  refine Fld.start ?_
  have hv : (Term.field t O n d).eval args Z none [] Z = Z.fieldOf? a O n d := by simp [Term.eval, ev]
  have hi : (Term.int z).eval args Z none [] Z = some (.int z) := rfl
  simp only [Cond.before, Cond.holds, Cond.value, hv, hi] at hq
  cases hw : Z.fieldOf? a O n d with
  | none => simp [hw] at hq
  | some w => cases w <;> simp [hw] at hq <;> rw [hq]
theorem own_fldU {a : Addr} {O n d : String} {v w : Value} (F : Fld Z h a O n d v) (G : Fld Z h a O n d w) : v = w := by
  obtain ⟨c1, _, _, _, f1, h1, h2, -, -, -, -, h7⟩ := F
  obtain ⟨c2, _, _, _, f2, g1, g2, -, -, -, -, g7⟩ := G
  cases h1.symm.trans g1
  cases h2.symm.trans g2
  exact Option.some.inj (h7.symm.trans g7)
theorem own_below {N : Nat} {y : Int32} (h1 : 0 ≤ y.toInt) (h2 : y.toInt < N) : y ∈ (List.range N).map fun i => Int32.ofNat i := by
  refine List.mem_map.mpr ⟨y.toInt.toNat, List.mem_range.mpr (by omega), ?_⟩
  apply Int32.toInt_inj.mp
  have h3 := y.toInt_lt
  rw [Int32.toInt_ofNat_of_lt (by omega)]
  omega
theorem own_mod {N : Nat} (x : Int32) (hN : 0 < N) (hN2 : N < 1000) : (x &&& 2147483647) % Int32.ofNat N ∈ (List.range N).map fun i => Int32.ofNat i := by
  have e1 : (x &&& 2147483647).toInt = x.toInt % 2 ^ 31 := Jvm.Kit.i32_mask x 2147483647 (k := 31) (by decide) (by decide)
  have e2 : (Int32.ofNat N).toInt = N := Int32.toInt_ofNat_of_lt (by omega)
  have e3 : ((x &&& 2147483647) % Int32.ofNat N).toInt = (x.toInt % 2 ^ 31) % N := by
    rw [Int32.toInt_mod, e1, e2, Int.tmod_eq_emod_of_nonneg (by omega)]
  have q1 := Int.emod_nonneg (x.toInt % 2 ^ 31) (b := (N : Int)) (by omega)
  have q2 := Int.emod_lt_of_pos (x.toInt % 2 ^ 31) (b := (N : Int)) (by omega)
  exact own_below (by omega) (by omega)
theorem own_bit (x : Int32) : (x &&& 1) ∈ (List.range 2).map fun i => Int32.ofNat i := by
  have e1 : (x &&& 1).toInt = x.toInt % 2 ^ 1 := Jvm.Kit.i32_mask x 1 (k := 1) (by decide) (by decide)
  exact own_below (by omega) (by omega)
/-- what is known of an unknown int by an interval decides a comparison with a number outside it -/
def own_iv (iv : Nat → Option (Int32 × Int32)) (cd : Jvm.ClassFile.Cond) (n : Nat) (z : Int32) : Option Bool :=
  match iv n with
  | some q => if q.2 < z then some (if_icmp.holds cd 0 1) else if z < q.1 then some (if_icmp.holds cd 1 0) else none
  | none => none
theorem own_iv_ok {iv : Nat → Option (Int32 × Int32)} {σ : Nat → Int32} (hQ : ∀ n q, iv n = some q → q.1 ≤ σ n ∧ σ n ≤ q.2) : ∀ cd n z b, own_iv iv cd n z = some b → if_icmp.holds cd (σ n) z = b := by
  intro cd n z b h
  unfold own_iv at h
  split at h
  · rename_i q hq
    obtain ⟨h1, h2⟩ := hQ n q hq
    rw [Int32.le_iff_toInt_le] at h1 h2
    split at h
    · rename_i hc
      rw [Int32.lt_iff_toInt_lt] at hc
      have e1 : σ n < z := by rw [Int32.lt_iff_toInt_lt]; omega
      have e2 : σ n ≠ z := fun e => by rw [e] at h2; omega
      have e3 : σ n ≤ z := by rw [Int32.le_iff_toInt_le]; omega
      have e4 : ¬ z ≤ σ n := by rw [Int32.le_iff_toInt_le]; omega
      have e5 : ¬ z < σ n := by rw [Int32.lt_iff_toInt_lt]; omega
      cases h
      cases cd <;> simp [if_icmp.holds, e1, e2, e3, e4, e5] <;> decide
    · split at h
      · rename_i hc
        rw [Int32.lt_iff_toInt_lt] at hc
        have e1 : z < σ n := by rw [Int32.lt_iff_toInt_lt]; omega
        have e2 : σ n ≠ z := fun e => by rw [e] at h1; omega
        have e3 : z ≤ σ n := by rw [Int32.le_iff_toInt_le]; omega
        have e4 : ¬ σ n ≤ z := by rw [Int32.le_iff_toInt_le]; omega
        have e5 : ¬ σ n < z := by rw [Int32.lt_iff_toInt_lt]; omega
        cases h
        cases cd <;> simp [if_icmp.holds, e1, e2, e3, e4, e5] <;> decide
      · cases h
  · cases h
theorem own_mask {M : Int32} {k N : Nat} (x m : Int32) (hk : M.toBitVec.toNat = 2 ^ k - 1) (hk2 : k < 31) (hN : N = 2 ^ k) (hm : M &&& m = m) {P : Int32 → Prop} (h : ∀ i ∈ (List.range N).map (fun i => Int32.ofNat i), P (i &&& m)) : P (x &&& m) := by
  have e1 : (x &&& M).toInt = x.toInt % 2 ^ k := Jvm.Kit.i32_mask x M (k := k) (by omega) hk
  have e2 : x &&& m = (x &&& M) &&& m := by rw [Int32.and_assoc, hm]
  rw [e2]
  have q1 : (0 : Int) < 2 ^ k := Int.pow_pos (by decide)
  have q2 := Int.emod_nonneg x.toInt (b := 2 ^ k) (by omega)
  have q3 := Int.emod_lt_of_pos x.toInt (b := 2 ^ k) q1
  exact h _ (own_below (by omega) (by rw [hN, e1]; simpa using q3))
theorem own_isLong {args : Array Value} {s : State} {t : Term} (h : (Cond.isLong t).before args s = true) : ∃ z, t.eval args s none [] s = some (.long z) := by
  simp only [Cond.before, Cond.holds, Cond.value] at h
  cases hw : t.eval args s none [] s with
  | none => simp [hw] at h
  | some w => cases w <;> simp [hw] at h ⊢
theorem own_fldL {t : Term} {O n d : String} {z : Int64} {a : Addr} (ev : t.eval args Z none [] Z = some (.ref a)) (hq : (Cond.eq (.field t O n d) (.long z)).before args Z = true) : Fld Z Z.heap a O n d (.long z) := by
  refine Fld.start ?_
  have hv : (Term.field t O n d).eval args Z none [] Z = Z.fieldOf? a O n d := by simp [Term.eval, ev]
  have hi : (Term.long z).eval args Z none [] Z = some (.long z) := rfl
  simp only [Cond.before, Cond.holds, Cond.value, hv, hi] at hq
  cases hw : Z.fieldOf? a O n d with
  | none => simp [hw] at hq
  | some w => cases w <;> simp [hw] at hq <;> rw [hq]
end OwnFacts
/-! THE SAME MACHINE WITH A HEAP of its own: the object of the token `.ref t` is the t-th of the list H: (some ty, _, vs): an array over ty with the components vs; (none, C, vs): an object of exactly the class C whose i-th field of the table FT holds vs[i] (`.float 0`: not known); (none, "", _): an object of which nothing is known. The tokens from N0 on are the objects that have been made. -/
section OwnHeap
abbrev own_O := Option FieldType × String × List Value
abbrev own_H := List own_O
def own_wf (k : Nat) : Value → Bool
  | .ref t => decide (t < k)
  | _ => true
def own_wfS (k : Nat) : Slot → Bool
  | .val v => own_wf k v
  | _ => true
def own_wfH (k : Nat) (H : own_H) : Bool := H.all fun o => o.2.2.all (own_wf k)
def own_known : Value → Bool
  | .float _ => false
  | _ => true
def own_proper (H : own_H) (t : Nat) : Bool := match H[t]? with
  | some o => decide (o.2.1 ≠ "")
  | none => false
def own_Obj (Z : State) (FT : List (String × String × String)) (r : Value → Value) (h : Heap) (a : Addr) (o : own_O) : Prop :=
  o.2.1 = "" ∨ match o.1 with
  | some ty => ∃ k, Arv Z h a k ty (Int32.ofNat o.2.2.length) (o.2.2.map r) (defaultValue ty) ∧ o.2.2.length < 2147483648 ∧ ∀ C, ty = .object C → Ovr Z k C
  | none => Exa Z h a o.2.1 ∧ ∀ (i : Nat) (v : Value) (f : String × String × String), o.2.2[i]? = some v → FT[i]? = some f → own_known v = true → Fld Z h a f.1 f.2.1 f.2.2 (r v)
def own_Inv (Z : State) (n0 N0 : Nat) (FT : List (String × String × String)) (SF : List (String × String × String × Value)) (σ : Nat → Int32) (τ : Nat → Int64) (ρ : Nat → Addr) (H : own_H) (h : Heap) : Prop :=
  (∀ t o, H[t]? = some o → own_Obj Z FT (own_val ρ σ τ) h (ρ t) o) ∧ (∀ t u, own_proper H t = true → own_proper H u = true → ρ t = ρ u → t = u) ∧ (∀ t, N0 ≤ t → own_proper H t = true → n0 ≤ ρ t) ∧ n0 ≤ h.size ∧ (∀ q ∈ SF, Sta Z h q.1 q.2.1 q.2.2.1 (own_val ρ σ τ q.2.2.2)) ∧ N0 ≤ H.length
def own_hstep (N0 : Nat) (BT : Nat → Bool) (i : Instr) (len pc : Nat) (st : List Value) (H : own_H) : Option (Nat × List Value × own_H) :=
  match i with
  | .arraylength => match st with
    | .ref t :: rest => match H[t]? with
      | some (some _, nm, vs) => if len = 1 ∧ nm ≠ "" then some (pc + 1, .int (Int32.ofNat vs.length) :: rest, H) else none
      | _ => none
    | _ => none
  | .baload => match st with
    | .int j :: .ref t :: rest => match H[t]? with
      | some (some .byte, nm, vs) => if len = 1 ∧ ¬ j < 0 ∧ j.toNatClampNeg < vs.length ∧ nm ≠ "" then some (pc + 1, vs.getD j.toNatClampNeg (.int 0) :: rest, H) else none
      | some (some .boolean, nm, vs) => if len = 1 ∧ ¬ j < 0 ∧ j.toNatClampNeg < vs.length ∧ nm ≠ "" then some (pc + 1, vs.getD j.toNatClampNeg (.int 0) :: rest, H) else none
      | _ => none
    | _ => none
  | .iaload => match st with
    | .int j :: .ref t :: rest => match H[t]? with
      | some (some .int, nm, vs) => if len = 1 ∧ ¬ j < 0 ∧ j.toNatClampNeg < vs.length ∧ nm ≠ "" then some (pc + 1, vs.getD j.toNatClampNeg (.int 0) :: rest, H) else none
      | _ => none
    | _ => none
  | .aaload => match st with
    | .int j :: .ref t :: rest => match H[t]? with
      | some (some (.object _), nm, vs) => if len = 1 ∧ ¬ j < 0 ∧ j.toNatClampNeg < vs.length ∧ nm ≠ "" then some (pc + 1, vs.getD j.toNatClampNeg .null :: rest, H) else none
      | _ => none
    | _ => none
  | .iastore => match st with
    | v :: .int j :: .ref t :: rest => match H[t]? with
      | some (some .int, nm, vs) => if len = 1 ∧ ¬ j < 0 ∧ j.toNatClampNeg < vs.length ∧ N0 ≤ t ∧ nm ≠ "" ∧ own_isI v = true then some (pc + 1, rest, H.set t (some .int, nm, vs.set j.toNatClampNeg v)) else none
      | _ => none
    | _ => none
  | .bastore => match st with
    | .int x :: .int j :: .ref t :: rest => match H[t]? with
      | some (some .byte, nm, vs) => if len = 1 ∧ ¬ j < 0 ∧ j.toNatClampNeg < vs.length ∧ N0 ≤ t ∧ nm ≠ "" then some (pc + 1, rest, H.set t (some .byte, nm, vs.set j.toNatClampNeg (.int (nar .byte x)))) else none
      | some (some .boolean, nm, vs) => if len = 1 ∧ ¬ j < 0 ∧ j.toNatClampNeg < vs.length ∧ N0 ≤ t ∧ nm ≠ "" then some (pc + 1, rest, H.set t (some .boolean, nm, vs.set j.toNatClampNeg (.int (nar .boolean x)))) else none
      | _ => none
    | .retAddr n :: .int j :: .ref t :: rest => match H[t]? with
      | some (some .byte, nm, vs) => if len = 1 ∧ ¬ j < 0 ∧ j.toNatClampNeg < vs.length ∧ N0 ≤ t ∧ nm ≠ "" ∧ BT n = true then some (pc + 1, rest, H.set t (some .byte, nm, vs.set j.toNatClampNeg (.retAddr n))) else none
      | _ => none
    | _ => none
  | .aastore => match st with
    | .ref u :: .int j :: .ref t :: rest => match H[t]? with
      | some (some (.object C), nm, vs) => match H[u]? with
        | some (none, D, _) => if len = 1 ∧ ¬ j < 0 ∧ j.toNatClampNeg < vs.length ∧ N0 ≤ t ∧ nm ≠ "" ∧ D ≠ "" ∧ C = D then some (pc + 1, rest, H.set t (some (.object C), nm, vs.set j.toNatClampNeg (.ref u))) else none
        | _ => none
      | _ => none
    | _ => none
  | .if_acmp cd o => match st with
    | .ref u :: .ref t :: rest => if own_proper H u = true ∧ own_proper H t = true ∧ len = 3 ∧ 0 ≤ (pc : Int) + o then some (if acV cd (decide (t = u)) = true then ((pc : Int) + o).toNat else pc + 3, rest, H) else none
    | _ => none
  | _ => none
abbrev own_HHook := List Slot → List Value → own_H → Nat → Nat → Option (Nat × List Value × own_H × Nat × Nat)
def own_hrun (N0 : Nat) (BT : Nat → Bool) (O : Jvm.ClassFile.Cond → Nat → Int32 → Option Bool) (A : Instr → List Value → Option (List Value)) (code : ByteArray) (hooks : List (Nat × own_HHook)) (ret : Option FieldType) : Nat → Nat → List Slot → List Value → own_H → Nat → Nat → Option (Option Value × own_H × Nat × Nat)
  | 0, _, _, _, _, _, _ => none
  | n + 1, pc, ls, st, H, cs, sl => match own_look hooks pc with
    | some F => match F ls st H cs sl with
      | some q => own_hrun N0 BT O A code hooks ret n q.1 ls q.2.1 q.2.2.1 q.2.2.2.1 q.2.2.2.2
      | none => none
    | none => match decode code pc with
      | .ok (i, len) => match A i st with
        | some st' => if len = 1 then own_hrun N0 BT O A code hooks ret n (pc + 1) ls st' H cs sl else none
        | none => match own_hstep N0 BT i len pc st H with
          | some q => own_hrun N0 BT O A code hooks ret n q.1 ls q.2.1 q.2.2 cs sl
          | none => match own_step 0 O i len pc ls st with
            | some q => own_hrun N0 BT O A code hooks ret n q.1 q.2.1 q.2.2 H cs sl
            | none => match st with
              | v :: _ => if own_retOk ret i len v = true then some (some v, H, cs, sl) else none
              | [] => if i = .return_ ∧ len = 1 ∧ ret = none then some (none, H, cs, sl) else none
      | .error _ => none
end OwnHeap
section OwnHeapSound
variable {Z : State} {n0 N0 : Nat} {FT : List (String × String × String)} {SF : List (String × String × String × Value)} {σ : Nat → Int32} {τ : Nat → Int64} {ρ ρ' : Nat → Addr} {H : own_H} {h h' : Heap} {a b : Addr} {o : own_O} {a0 : Array Value}
theorem own_agree {k : Nat} (q : ∀ t, t < k → ρ' t = ρ t) {v : Value} (w : own_wf k v = true) : own_val ρ' σ τ v = own_val ρ σ τ v := by
  cases v <;> first | rfl | (simp only [own_wf, decide_eq_true_eq] at w; simp [own_val, q _ w])
theorem own_agreeL {k : Nat} (q : ∀ t, t < k → ρ' t = ρ t) {L : List Value} (w : L.all (own_wf k) = true) : L.map (own_val ρ' σ τ) = L.map (own_val ρ σ τ) :=
  List.map_congr_left fun v hv => own_agree q (List.all_eq_true.mp w v hv)
theorem own_agreeS {k : Nat} (q : ∀ t, t < k → ρ' t = ρ t) {L : List Slot} (w : L.all (own_wfS k) = true) : own_ls ρ' σ τ L = own_ls ρ σ τ L := by
  unfold own_ls
  rw [List.map_congr_left (g := own_slot ρ σ τ) fun v hv => ?_]
  have w' := List.all_eq_true.mp w v hv
  cases v with
  | val z => simp only [own_slot]; rw [own_agree q w']
  | unset => rfl
  | second => rfl
theorem own_Obj_ext (E : Ext h h') {r : Value → Value} (F : own_Obj Z FT r h a o) : own_Obj Z FT r h' a o := by
  obtain ⟨ty, C, vs⟩ := o
  refine F.imp id fun F => ?_
  cases ty with
  | some ty => obtain ⟨k, A, q⟩ := F; exact ⟨k, A.ext E, q⟩
  | none => obtain ⟨X, F⟩ := F; exact ⟨X.ext E, fun i v f h1 h2 h3 => (F i v f h1 h2 h3).ext E⟩
theorem own_Obj_wr {sl : Nat} {w : Value} (W : Wr h h' b sl w) (ne : a ≠ b) {r : Value → Value} (F : own_Obj Z FT r h a o) : own_Obj Z FT r h' a o := by
  obtain ⟨ty, C, vs⟩ := o
  refine F.imp id fun F => ?_
  cases ty with
  | some ty => obtain ⟨k, A, q⟩ := F; exact ⟨k, A.other W ne, q⟩
  | none => obtain ⟨X, F⟩ := F; exact ⟨X.wr W, fun i v f h1 h2 h3 => (F i v f h1 h2 h3).other W (Or.inl ne)⟩
theorem own_Obj_agree {k : Nat} (q : ∀ t, t < k → ρ' t = ρ t) (w : o.2.2.all (own_wf k) = true) (F : own_Obj Z FT (own_val ρ σ τ) h a o) : own_Obj Z FT (own_val ρ' σ τ) h a o := by
  obtain ⟨ty, C, vs⟩ := o
  refine F.imp id fun F => ?_
  cases ty with
  | some ty =>
    obtain ⟨k, A, r⟩ := F
    refine ⟨k, ?_, r⟩
    show Arv Z h a k ty (Int32.ofNat vs.length) (vs.map (own_val ρ' σ τ)) (defaultValue ty)
    rw [own_agreeL q w]
    exact A
  | none =>
    obtain ⟨X, F⟩ := F
    refine ⟨X, fun i v f h1 h2 h3 => ?_⟩
    rw [own_agree q (List.all_eq_true.mp w v (List.mem_of_getElem? h1))]
    exact F i v f h1 h2 h3
theorem own_Obj_lt {r : Value → Value} (F : own_Obj Z FT r h a o) (p : o.2.1 ≠ "") : a < h.size := by
  obtain ⟨ty, C, vs⟩ := o
  rcases F with F | F
  · exact absurd F p
  cases ty with
  | some ty => obtain ⟨k, A, r⟩ := F; exact A.lt
  | none => exact F.1.lt
theorem own_proper_at {t : Nat} (q : own_proper H t = true) : ∃ o, H[t]? = some o ∧ o.2.1 ≠ "" := by
  unfold own_proper at q
  split at q
  · rename_i o ho; exact ⟨o, ho, by simpa using q⟩
  · cases q
theorem own_Inv_ext (E : Ext h h') (I : own_Inv Z n0 N0 FT SF σ τ ρ H h) : own_Inv Z n0 N0 FT SF σ τ ρ H h' :=
  ⟨fun t o q => own_Obj_ext E (I.1 t o q), I.2.1, I.2.2.1, Nat.le_trans I.2.2.2.1 E.1, fun q hq => (I.2.2.2.2.1 q hq).ext E, I.2.2.2.2.2⟩
theorem own_Inv_agree (q : ∀ t, t < H.length → ρ' t = ρ t) (w : own_wfH H.length H = true) (wS : ∀ q ∈ SF, own_wf N0 q.2.2.2 = true) (I : own_Inv Z n0 N0 FT SF σ τ ρ H h) : own_Inv Z n0 N0 FT SF σ τ ρ' H h := by
  have lt : ∀ t, own_proper H t = true → t < H.length := fun t ht => by obtain ⟨o, ho, -⟩ := own_proper_at ht; exact (List.getElem?_eq_some_iff.mp ho).1
  refine ⟨fun t o ho => ?_, fun t u ht hu e => ?_, fun t h1 h2 => ?_, I.2.2.2.1, fun z hz => ?_, I.2.2.2.2.2⟩
  · rw [q t (List.getElem?_eq_some_iff.mp ho).1]
    exact own_Obj_agree q (List.all_eq_true.mp w o (List.mem_of_getElem? ho)) (I.1 t o ho)
  · rw [q t (lt t ht), q u (lt u hu)] at e; exact I.2.1 t u ht hu e
  · rw [q t (lt t h2)]; exact I.2.2.1 t h1 h2
  · rw [own_agree (k := N0) (fun t ht => q t (Nat.lt_of_lt_of_le ht I.2.2.2.2.2)) (wS z hz)]; exact I.2.2.2.2.1 z hz
/-- an object is made, or one comes in of which nothing is known -/
theorem own_Inv_new (E : Ext h h') (wS : ∀ q ∈ SF, own_wf N0 q.2.2.2 = true) (w : own_wfH H.length H = true) (I : own_Inv Z n0 N0 FT SF σ τ ρ H h) (F : ∀ r : Value → Value, (∀ v, own_wf 0 v = true → r v = own_val (fun _ => 0) σ τ v) → own_Obj Z FT r h' a o) (ho : o.2.2.all (own_wf 0) = true) (ha : o.2.1 ≠ "" → h.size ≤ a) :
    own_Inv Z n0 N0 FT SF σ τ (fun t => if t = H.length then a else ρ t) (H ++ [o]) h' := by
  have q : ∀ t, t < H.length → (fun t => if t = H.length then a else ρ t) t = ρ t := fun t ht => by simp [Nat.ne_of_lt ht]
  have I' := own_Inv_ext E (own_Inv_agree q w wS I)
  have pr : ∀ t, own_proper (H ++ [o]) t = true → (t < H.length ∧ own_proper H t = true) ∨ (t = H.length ∧ o.2.1 ≠ "") := fun t ht => by
    obtain ⟨o', h1, h2⟩ := own_proper_at ht
    by_cases lt : t < H.length
    · refine Or.inl ⟨lt, ?_⟩
      rw [List.getElem?_append_left lt] at h1
      simp [own_proper, h1, h2]
    · have lt2 := (List.getElem?_eq_some_iff.mp h1).1
      simp only [List.length_append, List.length_singleton] at lt2
      have e : t = H.length := by omega
      subst e
      rw [List.getElem?_concat_length] at h1
      cases h1
      exact Or.inr ⟨rfl, h2⟩
  have old : ∀ t, own_proper H t = true → ρ t < h.size := fun t ht => by
    obtain ⟨o', h1, h2⟩ := own_proper_at ht
    exact own_Obj_lt (I.1 t o' h1) h2
  refine ⟨fun t o' ho' => ?_, fun t u ht hu e => ?_, fun t h1 h2 => ?_, I'.2.2.2.1, I'.2.2.2.2.1, by simp; exact Nat.le_succ_of_le I.2.2.2.2.2⟩
  · by_cases lt : t < H.length
    · rw [List.getElem?_append_left lt] at ho'
      exact I'.1 t o' ho'
    · have lt2 := (List.getElem?_eq_some_iff.mp ho').1
      simp only [List.length_append, List.length_singleton] at lt2
      have e : t = H.length := by omega
      subst e
      rw [List.getElem?_concat_length] at ho'
      cases ho'
      simp only [if_true]
      exact F _ fun v hv => own_agree (k := 0) (fun _ z => absurd z (Nat.not_lt_zero _)) hv
  · rcases pr t ht with ⟨t1, t2⟩ | ⟨rfl, t2⟩ <;> rcases pr u hu with ⟨u1, u2⟩ | ⟨rfl, u2⟩
    · simp only [Nat.ne_of_lt t1, Nat.ne_of_lt u1, if_false] at e
      exact I.2.1 t u t2 u2 e
    · simp only [Nat.ne_of_lt t1, if_false, if_true] at e
      have q1 := old t t2; rw [e] at q1; exact absurd q1 (Nat.not_lt.mpr (ha u2))
    · simp only [Nat.ne_of_lt u1, if_false, if_true] at e
      have q1 := old u u2; rw [← e] at q1; exact absurd q1 (Nat.not_lt.mpr (ha t2))
    · rfl
  · rcases pr t h2 with ⟨t1, t2⟩ | ⟨rfl, t2⟩
    · simp only [Nat.ne_of_lt t1, if_false]; exact I.2.2.1 t h1 t2
    · simp only [if_true]; exact Nat.le_trans I.2.2.2.1 (ha t2)
/-- a place of an object that was made is written -/
theorem own_Inv_wr {t sl : Nat} {w : Value} {nm nm' : String} {ty ty' : Option FieldType} {vs vs' : List Value} (W : Wr h h' (ρ t) sl w) (I : own_Inv Z n0 N0 FT SF σ τ ρ H h) (hH : H[t]? = some (ty, nm, vs)) (hn : nm ≠ "") (hn' : nm' ≠ "") (F : own_Obj Z FT (own_val ρ σ τ) h' (ρ t) (ty', nm', vs')) :
    own_Inv Z n0 N0 FT SF σ τ ρ (H.set t (ty', nm', vs')) h' := by
  have lt := (List.getElem?_eq_some_iff.mp hH).1
  have pt : own_proper H t = true := by simp [own_proper, hH, hn]
  have pr : ∀ u, own_proper (H.set t (ty', nm', vs')) u = true → own_proper H u = true := fun u hu => by
    by_cases e : u = t
    · subst e; exact pt
    · obtain ⟨o', h1, h2⟩ := own_proper_at hu
      rw [List.getElem?_set_ne (Ne.symm e)] at h1
      simp [own_proper, h1, h2]
  refine ⟨fun u o' ho' => ?_, fun u v hu hv e => I.2.1 u v (pr u hu) (pr v hv) e, fun u h1 h2 => I.2.2.1 u h1 (pr u h2), ?_, fun q hq => (I.2.2.2.2.1 q hq).wr W, by simpa using I.2.2.2.2.2⟩
  · by_cases e : u = t
    · subst e
      rw [List.getElem?_set_self lt] at ho'
      cases ho'
      exact F
    · rw [List.getElem?_set_ne (Ne.symm e)] at ho'
      by_cases hp : o'.2.1 = ""
      · exact Or.inl hp
      · exact own_Obj_wr W (fun e' => e (I.2.1 u t (by simp [own_proper, ho', hp]) pt e')) (I.1 u o' ho')
  · rw [W.size]; exact I.2.2.2.1
end OwnHeapSound
section OwnHeapRun
/-- where the run stands: base state s', state T, the places of the tokens, the heap H, and how many cells and slots have been taken -/
def own_P (Z : State) (n0 N0 : Nat) (FT : List (String × String × String)) (SF : List (String × String × String × Value)) (σ : Nat → Int32) (τ : Nat → Int64) (p : Program) (l : Launch) (e : Env) (R : Room) (m : MethodId) (args : Array Value) (below : List Frame) (meth : Method) (c : Code) (own : String) (B : State → Nat → Prop) (s' T : State) (ρ : Nat → Addr) (H : own_H) (cs sl : Nat) : Prop :=
  ∃ locs, Stand p l e R s' m args below meth c T locs cs sl ∧ Fr n0 locs ∧ own_Inv Z n0 N0 FT SF σ τ ρ H T.heap ∧ B s' T.heap.size ∧ Z.Warmed39 s'.vm ∧ s'.vm.findClass own = some m.cls
def own_HG (Z : State) (n0 N0 : Nat) (FT : List (String × String × String)) (SF : List (String × String × String × Value)) (σ : Nat → Int32) (τ : Nat → Int64) (p : Program) (l : Launch) (e : Env) (R : Room) (m : MethodId) (args : Array Value) (below : List Frame) (meth : Method) (c : Code) (own : String) (B : State → Nat → Prop)
    (pc : Nat) (ls : List Slot) (st : List Value) (H : own_H) (cs sl : Nat) (pc' : Nat) (ls' : List Slot) (st' : List Value) (H' : own_H) (cs' sl' : Nat) : Prop :=
  ∀ s' T ρ, own_P Z n0 N0 FT SF σ τ p l e R m args below meth c own B s' T ρ H cs sl → ∃ s'' T' ρ', own_P Z n0 N0 FT SF σ τ p l e R m args below meth c own B s'' T' ρ' H' cs' sl' ∧ (∀ t, t < H.length → ρ' t = ρ t) ∧ H.length ≤ H'.length ∧ T.heap.size ≤ T'.heap.size ∧
    ∀ target, Steps p.tables e below (T'.setTop (mkF m pc' (own_ls ρ' σ τ ls') (own_st ρ' σ τ st'))) target → Steps p.tables e below (T.setTop (mkF m pc (own_ls ρ σ τ ls) (own_st ρ σ τ st))) target
variable {Z : State} {n0 N0 : Nat} {FT : List (String × String × String)} {SF : List (String × String × String × Value)} {σ : Nat → Int32} {τ : Nat → Int64} {p : Program} {l : Launch} {e : Env} {R : Room} {m : MethodId} {args : Array Value} {below : List Frame} {meth : Method} {c : Code} {own : String} {B : State → Nat → Prop} {a0 : Array Value}
/-- a step that leaves the state as it is -/
theorem own_HG_pure {pc pc' cs sl : Nat} {ls ls' : List Slot} {st st' : List Value} {H : own_H}
    (k : ∀ s' T locs ρ, Stand p l e R s' m args below meth c T locs cs sl → Z.Warmed39 s'.vm → s'.vm.findClass own = some m.cls → own_Inv Z n0 N0 FT SF σ τ ρ H T.heap → ∀ target, Steps p.tables e below (T.setTop (mkF m pc' (own_ls ρ σ τ ls') (own_st ρ σ τ st'))) target → Steps p.tables e below (T.setTop (mkF m pc (own_ls ρ σ τ ls) (own_st ρ σ τ st))) target) :
    own_HG Z n0 N0 FT SF σ τ p l e R m args below meth c own B pc ls st H cs sl pc' ls' st' H cs sl := by
  rintro s' T ρ ⟨locs, X, N, I, hB, hZ, hown⟩
  exact ⟨s', T, ρ, ⟨locs, X, N, I, hB, hZ, hown⟩, fun _ _ => rfl, Nat.le_refl _, Nat.le_refl _, k s' T locs ρ X hZ hown I⟩
/-- a step that leaves the heap as it is -/
theorem own_HG_same {pc pc' cs sl : Nat} {ls ls' : List Slot} {st st' : List Value} {H : own_H}
    (k : ∀ s' T locs ρ h, Stand p l e R s' m args below meth c T locs cs sl → Z.Warmed39 s'.vm → s'.vm.findClass own = some m.cls → T.heap = h → own_Inv Z n0 N0 FT SF σ τ ρ H h → ∃ T', Stand p l e R s' m args below meth c T' locs cs sl ∧ T'.heap = h ∧ ∀ target, Steps p.tables e below (T'.setTop (mkF m pc' (own_ls ρ σ τ ls') (own_st ρ σ τ st'))) target → Steps p.tables e below (T.setTop (mkF m pc (own_ls ρ σ τ ls) (own_st ρ σ τ st))) target) :
    own_HG Z n0 N0 FT SF σ τ p l e R m args below meth c own B pc ls st H cs sl pc' ls' st' H cs sl := by
  rintro s' T ρ ⟨locs, X, N, I, hB, hZ, hown⟩
  obtain ⟨T', X', e', k'⟩ := k s' T locs ρ T.heap X hZ hown rfl I
  exact ⟨s', T', ρ, ⟨locs, X', N, by rw [e']; exact I, by rw [e']; exact hB, hZ, hown⟩, fun _ _ => rfl, Nat.le_refl _, by rw [e']; exact Nat.le_refl _, k'⟩
/-- a step that writes one place of an object that was made -/
theorem own_HG_wr {pc pc' cs sl t : Nat} {ls ls' : List Slot} {st st' : List Value} {H : own_H} {ty : Option FieldType} {nm : String} {vs vs' : List Value} (hH : H[t]? = some (ty, nm, vs)) (hN : N0 ≤ t) (hn : nm ≠ "")
    (k : ∀ s' T locs ρ h, Stand p l e R s' m args below meth c T locs cs sl → Z.Warmed39 s'.vm → s'.vm.findClass own = some m.cls → T.heap = h → own_Inv Z n0 N0 FT SF σ τ ρ H h → ∃ T' h' i w, Stand p l e R s' m args below meth c T' (locs ++ [⟨ρ t, i⟩]) cs sl ∧ T'.heap = h' ∧ Wr h h' (ρ t) i w ∧ own_Obj Z FT (own_val ρ σ τ) h' (ρ t) (ty, nm, vs') ∧ ∀ target, Steps p.tables e below (T'.setTop (mkF m pc' (own_ls ρ σ τ ls') (own_st ρ σ τ st'))) target → Steps p.tables e below (T.setTop (mkF m pc (own_ls ρ σ τ ls) (own_st ρ σ τ st))) target) :
    own_HG Z n0 N0 FT SF σ τ p l e R m args below meth c own B pc ls st H cs sl pc' ls' st' (H.set t (ty, nm, vs')) cs sl := by
  rintro s' T ρ ⟨locs, X, N, I, hB, hZ, hown⟩
  obtain ⟨T', h', i, w, X', e', W, F, k'⟩ := k s' T locs ρ T.heap X hZ hown rfl I
  have pt : own_proper H t = true := by simp [own_proper, hH, hn]
  have sz : T'.heap.size = T.heap.size := by rw [e']; exact W.size
  exact ⟨s', T', ρ, ⟨_, X', Fr.snoc X' N (I.2.2.1 t hN pt), by rw [e']; exact own_Inv_wr W I hH hn hn F, by rw [sz]; exact hB, hZ, hown⟩, fun _ _ => rfl, by simp, by rw [sz]; exact Nat.le_refl _, k'⟩
theorem own_arr {ρ : Nat → Addr} {H : own_H} {h : Heap} {t : Nat} {ty : FieldType} {nm : String} {vs : List Value} (I : own_Inv Z n0 N0 FT SF σ τ ρ H h) (hH : H[t]? = some (some ty, nm, vs)) (hn : nm ≠ "") :
    ∃ k cl, Arr Z h (ρ t) cl ty ∧ cl.cls = k ∧ cl.slots.size = vs.length ∧ cl.slots.size < 2147483648 ∧ (∀ i, i < vs.length → cl.slots[i]? = some (own_val ρ σ τ (vs.getD i .null))) ∧ Arv Z h (ρ t) k ty (Int32.ofNat vs.length) (vs.map (own_val ρ σ τ)) (defaultValue ty) ∧ ∀ C, ty = .object C → Ovr Z k C := by
  rcases I.1 t _ hH with q | ⟨k, A, hl, hO⟩
  · exact absurd q hn
  have hl : vs.length < 2147483648 := hl
  have A' := A
  obtain ⟨cl, A1, A2, A3, A4, A5, A6⟩ := A
  have e1 : (Int32.ofNat vs.length).toNatClampNeg = vs.length := by
    simp only [Int32.toNatClampNeg]
    rw [Int32.toInt_ofNat_of_lt hl]; rfl
  have e2 : cl.slots.size = vs.length := A3.trans e1
  refine ⟨k, cl, A1, A2, e2, by omega, fun i hi => ?_, A', hO⟩
  have q := A5 i (by omega)
  rw [q]
  simp [List.getD, hi]
theorem own_in {j : Int32} {n : Nat} (h1 : ¬ j < 0) (h2 : j.toNatClampNeg < n) : ¬ (j < 0 ∨ n ≤ j.toNatClampNeg) := fun q => q.elim h1 fun z => by omega
theorem own_hstep_ok (hx : p.tables.exec = Jvm.exec) {BT : Nat → Bool} (hBT : ∀ n, BT n = true → nar .byte (σ n) = σ n ∧ fits .byte (.int (σ n)) = true) {i : Instr} {len pc cs sl : Nat} {ls : List Slot} {st : List Value} {H : own_H} {q : Nat × List Value × own_H} (hd : decode c.code pc = .ok (i, len)) (h : own_hstep N0 BT i len pc st H = some q) :
    own_HG Z n0 N0 FT SF σ τ p l e R m args below meth c own B pc ls st H cs sl q.1 ls q.2.1 q.2.2 cs sl := by
  unfold own_hstep at h
  split at h
  · -- arraylength
    split at h
    · rename_i t rest
      split at h
      · rename_i ty nm vs hH
        split at h
        · rename_i hc; obtain ⟨rfl, hn⟩ := hc; cases h
          refine own_HG_pure fun s' T locs ρ X hZ hown I target k => ?_
          obtain ⟨kk, cl, A, -, e2, e3, -⟩ := own_arr I hH hn
          refine X.arraylength hx A.1 (State.isArrayOf_alike hZ.alike A.2.1) (g := mkF m pc (own_ls ρ σ τ ls) (own_st ρ σ τ (.ref t :: rest))) rfl rfl hd _ ?_
          rw [e2]; exact k
        · cases h
      · cases h
    · cases h
  · -- baload
    split at h
    · rename_i j t rest
      split at h
      · rename_i nm vs hH
        split at h
        · rename_i hc; obtain ⟨rfl, h1, h2, hn⟩ := hc; cases h
          refine own_HG_pure fun s' T locs ρ X hZ hown I target k => ?_
          obtain ⟨kk, cl, A, -, e2, e3, e4, -⟩ := own_arr I hH hn
          refine X.baloadBytes hx (j := j) A.1 (State.isArrayOf_alike hZ.alike A.2.1) A.2.2 (own_in h1 (by omega)) (e4 _ h2) (g := mkF m pc (own_ls ρ σ τ ls) (own_st ρ σ τ (.int j :: .ref t :: rest))) rfl rfl hd _ ?_
          have e5 : vs.getD j.toNatClampNeg .null = vs.getD j.toNatClampNeg (.int 0) := by simp [List.getD, h2]
          rw [e5]; exact k
        · cases h
      · rename_i nm vs hH
        split at h
        · rename_i hc; obtain ⟨rfl, h1, h2, hn⟩ := hc; cases h
          refine own_HG_pure fun s' T locs ρ X hZ hown I target k => ?_
          obtain ⟨kk, cl, A, -, e2, e3, e4, -⟩ := own_arr I hH hn
          refine X.baloadBooleans hx (j := j) A.1 (State.isArrayOf_alike hZ.alike A.2.1) A.2.2 (own_in h1 (by omega)) (e4 _ h2) (g := mkF m pc (own_ls ρ σ τ ls) (own_st ρ σ τ (.int j :: .ref t :: rest))) rfl rfl hd _ ?_
          have e5 : vs.getD j.toNatClampNeg .null = vs.getD j.toNatClampNeg (.int 0) := by simp [List.getD, h2]
          rw [e5]; exact k
        · cases h
      · cases h
    · cases h
  · -- iaload
    split at h
    · rename_i j t rest
      split at h
      · rename_i nm vs hH
        split at h
        · rename_i hc; obtain ⟨rfl, h1, h2, hn⟩ := hc; cases h
          refine own_HG_pure fun s' T locs ρ X hZ hown I target k => ?_
          obtain ⟨kk, cl, A, -, e2, e3, e4, -⟩ := own_arr I hH hn
          refine X.iaload hx (j := j) A.1 (State.isArrayOf_alike hZ.alike A.2.1) A.2.2 (own_in h1 (by omega)) (e4 _ h2) (g := mkF m pc (own_ls ρ σ τ ls) (own_st ρ σ τ (.int j :: .ref t :: rest))) rfl rfl hd _ ?_
          have e5 : vs.getD j.toNatClampNeg .null = vs.getD j.toNatClampNeg (.int 0) := by simp [List.getD, h2]
          rw [e5]; exact k
        · cases h
      · cases h
    · cases h
  · -- aaload
    split at h
    · rename_i j t rest
      split at h
      · rename_i C nm vs hH
        split at h
        · rename_i hc; obtain ⟨rfl, h1, h2, hn⟩ := hc; cases h
          refine own_HG_pure fun s' T locs ρ X hZ hown I target k => ?_
          obtain ⟨kk, cl, A, -, e2, e3, e4, -⟩ := own_arr I hH hn
          exact X.aaload hx (j := j) A.1 (State.isArrayOf_alike hZ.alike A.2.1) rfl A.2.2 (own_in h1 (by omega)) (e4 _ h2) (g := mkF m pc (own_ls ρ σ τ ls) (own_st ρ σ τ (.int j :: .ref t :: rest))) rfl rfl hd _ k
        · cases h
      · cases h
    · cases h
  · -- iastore
    split at h
    · rename_i v j t rest
      split at h
      · rename_i nm vs hH
        split at h
        · rename_i hc; obtain ⟨rfl, h1, h2, hN, hn, hv⟩ := hc; cases h
          refine own_HG_wr hH hN hn fun s' T locs ρ h X hZ hown eT I => ?_
          obtain ⟨kk, cl, A, q1, e2, e3, e4, V, hO⟩ := own_arr I hH hn
          obtain ⟨z, hz⟩ := own_int (ρ := ρ) (σ := σ) (τ := τ) hv
          obtain ⟨T', h', X', e', W, k'⟩ := stI X hx hZ eT A (j := j) (x := z) (own_in h1 (by omega)) (g := mkF m pc (own_ls ρ σ τ ls) (own_st ρ σ τ (v :: .int j :: .ref t :: rest))) rfl (by show own_val ρ σ τ v :: _ = _; rw [hz]; rfl) hd
          refine ⟨T', h', _, _, X', e', W, Or.inr ⟨kk, ?_, by simpa using (show vs.length < 2147483648 by omega), hO⟩, k'⟩
          show Arv Z h' (ρ t) kk .int (Int32.ofNat (vs.set j.toNatClampNeg v).length) ((vs.set j.toNatClampNeg v).map (own_val ρ σ τ)) (defaultValue .int)
          rw [List.length_set, List.map_set, hz]
          obtain ⟨cl', B1, B2, B3, B4, B5, B6⟩ := V
          cases A.1.symm.trans B1.1
          exact Arv.set A q1 B3 B4 B5 B6 rfl W _ rfl (by simpa using h2)
        · cases h
      · cases h
    · cases h
  · -- bastore
    split at h
    · rename_i x j t rest
      split at h
      · rename_i nm vs hH
        split at h
        · rename_i hc; obtain ⟨rfl, h1, h2, hN, hn⟩ := hc; cases h
          refine own_HG_wr hH hN hn fun s' T locs ρ h X hZ hown eT I => ?_
          obtain ⟨kk, cl, A, q1, e2, e3, e4, V, hO⟩ := own_arr I hH hn
          obtain ⟨T', h', X', e', W, k'⟩ := stB X hx hZ eT A (j := j) (x := x) (own_in h1 (by omega)) (g := mkF m pc (own_ls ρ σ τ ls) (own_st ρ σ τ (.int x :: .int j :: .ref t :: rest))) rfl rfl hd
          refine ⟨T', h', _, _, X', e', W, Or.inr ⟨kk, ?_, by simpa using (show vs.length < 2147483648 by omega), hO⟩, k'⟩
          show Arv Z h' (ρ t) kk .byte (Int32.ofNat (vs.set j.toNatClampNeg (.int (nar .byte x))).length) ((vs.set j.toNatClampNeg (.int (nar .byte x))).map (own_val ρ σ τ)) (defaultValue .byte)
          rw [List.length_set, List.map_set]
          obtain ⟨cl', B1, B2, B3, B4, B5, B6⟩ := V
          cases A.1.symm.trans B1.1
          exact Arv.set A q1 B3 B4 B5 B6 (fits_nar_byte x) W _ rfl (by simpa using h2)
        · cases h
      · rename_i nm vs hH
        split at h
        · rename_i hc; obtain ⟨rfl, h1, h2, hN, hn⟩ := hc; cases h
          refine own_HG_wr hH hN hn fun s' T locs ρ h X hZ hown eT I => ?_
          obtain ⟨kk, cl, A, q1, e2, e3, e4, V, hO⟩ := own_arr I hH hn
          obtain ⟨T', h', X', e', W, k'⟩ := stZ X hx hZ eT A (j := j) (x := x) (own_in h1 (by omega)) (g := mkF m pc (own_ls ρ σ τ ls) (own_st ρ σ τ (.int x :: .int j :: .ref t :: rest))) rfl rfl hd
          refine ⟨T', h', _, _, X', e', W, Or.inr ⟨kk, ?_, by simpa using (show vs.length < 2147483648 by omega), hO⟩, k'⟩
          show Arv Z h' (ρ t) kk .boolean (Int32.ofNat (vs.set j.toNatClampNeg (.int (nar .boolean x))).length) ((vs.set j.toNatClampNeg (.int (nar .boolean x))).map (own_val ρ σ τ)) (defaultValue .boolean)
          rw [List.length_set, List.map_set]
          obtain ⟨cl', B1, B2, B3, B4, B5, B6⟩ := V
          cases A.1.symm.trans B1.1
          exact Arv.set A q1 B3 B4 B5 B6 (fits_nar_bool x) W _ rfl (by simpa using h2)
        · cases h
      · cases h
    · rename_i n j t rest
      split at h
      · rename_i nm vs hH
        split at h
        · rename_i hc; obtain ⟨rfl, h1, h2, hN, hn, hbt⟩ := hc; cases h
          obtain ⟨b1, b2⟩ := hBT n hbt
          refine own_HG_wr hH hN hn fun s' T locs ρ h X hZ hown eT I => ?_
          obtain ⟨kk, cl, A, q1, e2, e3, e4, V, hO⟩ := own_arr I hH hn
          obtain ⟨T', h', X', e', W, k'⟩ := stB X hx hZ eT A (j := j) (x := σ n) (own_in h1 (by omega)) (g := mkF m pc (own_ls ρ σ τ ls) (own_st ρ σ τ (.retAddr n :: .int j :: .ref t :: rest))) rfl rfl hd
          rw [b1] at W
          refine ⟨T', h', _, _, X', e', W, Or.inr ⟨kk, ?_, by simpa using (show vs.length < 2147483648 by omega), hO⟩, k'⟩
          show Arv Z h' (ρ t) kk .byte (Int32.ofNat (vs.set j.toNatClampNeg (.retAddr n)).length) ((vs.set j.toNatClampNeg (.retAddr n)).map (own_val ρ σ τ)) (defaultValue .byte)
          rw [List.length_set, List.map_set]
          obtain ⟨cl', B1, B2, B3, B4, B5, B6⟩ := V
          cases A.1.symm.trans B1.1
          exact Arv.set A q1 B3 B4 B5 B6 b2 W _ rfl (by simpa using h2)
        · cases h
      · cases h
    · cases h
  · -- aastore
    split at h
    · rename_i u j t rest
      split at h
      · rename_i C nm vs hH
        split at h
        · rename_i D us hU
          split at h
          · rename_i hc; obtain ⟨rfl, h1, h2, hN, hn, hD, rfl⟩ := hc; cases h
            refine own_HG_wr hH hN hn fun s' T locs ρ h X hZ hown eT I => ?_
            obtain ⟨kk, cl, A, q1, e2, e3, e4, V, hO⟩ := own_arr I hH hn
            have EX : Exa Z h (ρ u) C := by
              rcases I.1 u _ hU with q | q
              · exact absurd q hD
              · exact q.1
            obtain ⟨T', h', X', e', W, k'⟩ := stR X hx hZ eT A (j := j) (v := .ref (ρ u)) (own_in h1 (by omega)) rfl (Sto.ofV A q1 (hO C rfl) (Ins.self EX)) (g := mkF m pc (own_ls ρ σ τ ls) (own_st ρ σ τ (.ref u :: .int j :: .ref t :: rest))) rfl rfl hd
            refine ⟨T', h', _, _, X', e', W, Or.inr ⟨kk, ?_, by simpa using (show vs.length < 2147483648 by omega), hO⟩, k'⟩
            show Arv Z h' (ρ t) kk (.object C) (Int32.ofNat (vs.set j.toNatClampNeg (.ref u)).length) ((vs.set j.toNatClampNeg (.ref u)).map (own_val ρ σ τ)) (defaultValue (.object C))
            rw [List.length_set, List.map_set]
            obtain ⟨cl', B1, B2, B3, B4, B5, B6⟩ := V
            cases A.1.symm.trans B1.1
            exact Arv.set A q1 B3 B4 B5 B6 rfl W _ rfl (by simpa using h2)
          · cases h
        · cases h
      · cases h
    · cases h
  · -- if_acmp
    split at h
    · rename_i cd o u t rest
      split at h
      · rename_i hc; obtain ⟨h1, h2, rfl, hj⟩ := hc; cases h
        refine own_HG_pure fun s' T locs ρ X hZ hown I target k => ?_
        have e1 : decide (own_val ρ σ τ (.ref t) = own_val ρ σ τ (.ref u)) = decide (t = u) := by
          by_cases q : t = u
          · subst q; simp
          · have : ρ t ≠ ρ u := fun z => q (I.2.1 t u h2 h1 z)
            simp [own_val, q, this]
        exact acmp X hx rfl rfl rfl rfl hd rfl e1 hj rfl k
      · cases h
    · cases h
  · cases h
end OwnHeapRun
section OwnHeapHooks
def own_AOk (σ : Nat → Int32) (τ : Nat → Int64) (A : Instr → List Value → Option (List Value)) : Prop :=
  ∀ i st st', A i st = some st' → ∀ (p : Program) (l : Launch) (e : Env) (R : Room) (s : State) (m : MethodId) (args : Array Value) (below : List Frame) (meth : Method) (c : Code) (T : State) (locs : List Loc) (cs sl : Nat) (ρ : Nat → Addr) (pc : Nat) (Ls : Array Slot) (target : State), Stand p l e R s m args below meth c T locs cs sl → p.tables.exec = Jvm.exec → decode c.code pc = .ok (i, 1) →
    Steps p.tables e below (T.setTop (mkF m (pc + 1) Ls (own_st ρ σ τ st'))) target → Steps p.tables e below (T.setTop (mkF m pc Ls (own_st ρ σ τ st))) target
def own_HOk (Z : State) (n0 N0 : Nat) (FT : List (String × String × String)) (SF : List (String × String × String × Value)) (σ : Nat → Int32) (τ : Nat → Int64) (p : Program) (l : Launch) (e : Env) (R : Room) (m : MethodId) (args : Array Value) (below : List Frame) (meth : Method) (c : Code) (own : String) (B : State → Nat → Prop) (q : Nat × own_HHook) : Prop :=
  ∀ ls st H cs sl r, ls.length = c.maxLocals → q.2 ls st H cs sl = some r → own_HG Z n0 N0 FT SF σ τ p l e R m args below meth c own B q.1 ls st H cs sl r.1 ls r.2.1 r.2.2.1 r.2.2.2.1 r.2.2.2.2
variable {Z : State} {n0 N0 : Nat} {FT : List (String × String × String)} {SF : List (String × String × String × Value)} {σ : Nat → Int32} {τ : Nat → Int64} {p : Program} {l : Launch} {e : Env} {R : Room} {m : MethodId} {args : Array Value} {below : List Frame} {meth : Method} {c : Code} {own : String} {B : State → Nat → Prop} {a0 : Array Value}
theorem own_hrun_ok (hx : p.tables.exec = Jvm.exec) {code : ByteArray} (hby : c.code = code) {ret : Option FieldType} (hret : meth.sig.returnType = ret) {BT : Nat → Bool} (hBT : ∀ n, BT n = true → nar .byte (σ n) = σ n ∧ fits .byte (.int (σ n)) = true)
    {O : Jvm.ClassFile.Cond → Nat → Int32 → Option Bool} (hO : ∀ cd n z b, O cd n z = some b → if_icmp.holds cd (σ n) z = b) {A : Instr → List Value → Option (List Value)} (hA : own_AOk σ τ A) {hooks : List (Nat × own_HHook)} (hok : ∀ q ∈ hooks, own_HOk Z n0 N0 FT SF σ τ p l e R m args below meth c own B q) :
    ∀ (n pc : Nat) (ls : List Slot) (st : List Value) (H : own_H) (cs sl : Nat) (v : Option Value) (H' : own_H) (cs' sl' : Nat), own_hrun N0 BT O A code hooks ret n pc ls st H cs sl = some (v, H', cs', sl') → ls.length = c.maxLocals → ∀ s' T ρ, own_P Z n0 N0 FT SF σ τ p l e R m args below meth c own B s' T ρ H cs sl →
      ∃ s'' T' ρ', own_P Z n0 N0 FT SF σ τ p l e R m args below meth c own B s'' T' ρ' H' cs' sl' ∧ (∀ t, t < H.length → ρ' t = ρ t) ∧ H.length ≤ H'.length ∧ T.heap.size ≤ T'.heap.size ∧ (ret = none → v = none) ∧ ∀ fs, (∀ (f : JFrame) (acts : List Action), f.method = m → f.locked = none → f.entered = [] → (doReturn e (T'.setTop f) acts (v.map (own_val ρ' σ τ))).1 = T'.setFrames fs) →
        Steps p.tables e below (T.setTop (mkF m pc (own_ls ρ σ τ ls) (own_st ρ σ τ st))) (T'.setFrames fs)
  | 0, _, _, _, _, _, _, _, _, _, _, h, _, _, _, _, _ => by cases h
  | n + 1, pc, ls, st, H, cs, sl, v, H', cs', sl', hr, hl, s', T, ρ, hP => by
    have step : ∀ pc1 ls1 st1 H1 cs1 sl1, own_HG Z n0 N0 FT SF σ τ p l e R m args below meth c own B pc ls st H cs sl pc1 ls1 st1 H1 cs1 sl1 → ls1.length = ls.length → own_hrun N0 BT O A code hooks ret n pc1 ls1 st1 H1 cs1 sl1 = some (v, H', cs', sl') → ∃ s'' T' ρ', own_P Z n0 N0 FT SF σ τ p l e R m args below meth c own B s'' T' ρ' H' cs' sl' ∧ (∀ t, t < H.length → ρ' t = ρ t) ∧ H.length ≤ H'.length ∧ T.heap.size ≤ T'.heap.size ∧ (ret = none → v = none) ∧ ∀ fs, (∀ (f : JFrame) (acts : List Action), f.method = m → f.locked = none → f.entered = [] → (doReturn e (T'.setTop f) acts (v.map (own_val ρ' σ τ))).1 = T'.setFrames fs) →
        Steps p.tables e below (T.setTop (mkF m pc (own_ls ρ σ τ ls) (own_st ρ σ τ st))) (T'.setFrames fs) := fun pc1 ls1 st1 H1 cs1 sl1 g hl1 hr1 => by
      obtain ⟨s1, T1, ρ1, P1, a1, b1, c1, k1⟩ := g s' T ρ hP
      obtain ⟨s2, T2, ρ2, P2, a2, b2, c2, d2, k2⟩ := own_hrun_ok hx hby hret hBT hO hA hok n pc1 ls1 st1 H1 cs1 sl1 v H' cs' sl' hr1 (hl1.trans hl) s1 T1 ρ1 P1
      exact ⟨s2, T2, ρ2, P2, fun t ht => (a2 t (Nat.lt_of_lt_of_le ht b1)).trans (a1 t ht), Nat.le_trans b1 b2, Nat.le_trans c1 c2, d2, fun fs hfs => k1 _ (k2 fs hfs)⟩
    unfold own_hrun at hr
    split at hr
    · rename_i F hF
      split at hr
      · rename_i q hq
        exact step _ _ _ _ _ _ (hok _ (own_look_mem hF) ls st H cs sl q hl hq) rfl hr
      · cases hr
    · split at hr
      · rename_i i len hd
        have hd' : decode c.code pc = .ok (i, len) := hb hby hd
        split at hr
        · rename_i st' hst
          split at hr
          · rename_i h1; subst h1
            exact step _ _ _ _ _ _ (own_HG_pure fun s' T locs ρ X hZ hown I target k => hA i st st' hst p l e R s' m args below meth c T locs cs sl ρ pc _ target X hx hd' k) rfl hr
          · cases hr
        · split at hr
          · rename_i q hq
            exact step _ _ _ _ _ _ (own_hstep_ok hx hBT hd' hq) rfl hr
          · split at hr
            · rename_i q hq
              obtain ⟨pc', ls', st'⟩ := q
              have hl2 : ls'.length = ls.length := by
                obtain ⟨locs, X, -⟩ := hP
                exact (own_step_ok (ρ := ρ) (σ := σ) (τ := τ) (N := 0) (fun a b ha => absurd ha (Nat.not_lt_zero _)) hO X hx hd' hq).1
              exact step _ _ _ _ _ _ (own_HG_pure fun s' T locs ρ X hZ hown I target k => (own_step_ok (ρ := ρ) (σ := σ) (τ := τ) (N := 0) (fun a b ha => absurd ha (Nat.not_lt_zero _)) hO X hx hd' hq).2 target k) hl2 hr
            · split at hr
              · split at hr
                · rename_i hret'
                  cases hr
                  obtain ⟨locs, X, r⟩ := hP
                  refine ⟨s', T, ρ, ⟨locs, X, r⟩, fun _ _ => rfl, Nat.le_refl _, Nat.le_refl _, fun q => ?_, fun fs hfs => own_ret_ok X hx hret hd' hret' hfs⟩
                  subst q; simp [own_retOk] at hret'
                · cases hr
              · split at hr
                · rename_i hc; obtain ⟨rfl, rfl, rfl⟩ := hc
                  cases hr
                  obtain ⟨locs, X, r⟩ := hP
                  exact ⟨s', T, ρ, ⟨locs, X, r⟩, fun _ _ => rfl, Nat.le_refl _, Nat.le_refl _, fun _ => rfl, fun fs hfs => X.returnOut hx hret hd' hfs⟩
                · cases hr
      · cases hr
/-! the hooks -/
def own_gS (pc : Nat) (v : Value) : Nat × own_HHook := (pc, fun _ st H cs sl => some (pc + 3, v :: st, H, cs, sl))
theorem own_gS_ok (hx : p.tables.exec = Jvm.exec) {C n d : String} {index pc : Nat} {v : Value} (w : (Cond.fieldLink own index C n d).before a0 Z = true) (hS : (C, n, d, v) ∈ SF) (hd : decode c.code pc = .ok (.getstatic index, 3)) : own_HOk Z n0 N0 FT SF σ τ p l e R m args below meth c own B (own_gS pc v) := by
  intro ls st H cs sl r hl hr
  cases hr
  exact own_HG_same fun s' T locs ρ h X hZ hown eT I => getS (host := "") X hx hZ hown w Via.refl eT (I.2.2.2.2.1 _ hS) (g := mkF m pc (own_ls ρ σ τ ls) (own_st ρ σ τ st)) rfl hd
def own_gK (pc : Nat) (z : Int32) : Nat × own_HHook := (pc, fun _ st H cs sl => some (pc + 2, .int z :: st, H, cs, sl))
theorem own_gK_ok (hx : p.tables.exec = Jvm.exec) {index pc : Nat} {z : Int32} (w : (Cond.constant own index z).before a0 Z = true) (hd : decode c.code pc = .ok (.ldc index, 2)) : own_HOk Z n0 N0 FT SF σ τ p l e R m args below meth c own B (own_gK pc z) := by
  intro ls st H cs sl r hl hr
  cases hr
  exact own_HG_pure fun s' T locs ρ X hZ hown I => X.ldcInt hx hown (mvT hZ w) (g := mkF m pc (own_ls ρ σ τ ls) (own_st ρ σ τ st)) rfl hd
def own_gL (pc : Nat) (z : Int64) : Nat × own_HHook := (pc, fun _ st H cs sl => some (pc + 3, .long z :: st, H, cs, sl))
theorem own_gL_ok (hx : p.tables.exec = Jvm.exec) {index pc : Nat} {z : Int64} (w : (Cond.constantLong own index z).before a0 Z = true) (hd : decode c.code pc = .ok (.ldc2_w index, 3)) : own_HOk Z n0 N0 FT SF σ τ p l e R m args below meth c own B (own_gL pc z) := by
  intro ls st H cs sl r hl hr
  cases hr
  exact own_HG_pure fun s' T locs ρ X hZ hown I => X.ldc2Long hx hown (mvT hZ w) (g := mkF m pc (own_ls ρ σ τ ls) (own_st ρ σ τ st)) rfl hd
def own_gF (pc fi : Nat) : Nat × own_HHook := (pc, fun _ st H cs sl => match st with
  | .ref t :: rest => match H[t]? with
    | some (none, C, vs) => match vs[fi]? with
      | some v => if C ≠ "" ∧ own_known v = true then some (pc + 3, v :: rest, H, cs, sl) else none
      | none => none
    | _ => none
  | _ => none)
theorem own_gF_ok (hx : p.tables.exec = Jvm.exec) {f : String × String × String} {index pc fi : Nat} (w : (Cond.fieldLink own index f.1 f.2.1 f.2.2).before a0 Z = true) (hf : FT[fi]? = some f) (hd : decode c.code pc = .ok (.getfield index, 3)) : own_HOk Z n0 N0 FT SF σ τ p l e R m args below meth c own B (own_gF pc fi) := by
  intro ls st H cs sl r hl hr
  unfold own_gF at hr
  simp only at hr
  split at hr
  · rename_i t rest
    split at hr
    · rename_i C vs hH
      split at hr
      · rename_i v hv
        split at hr
        · rename_i hc; cases hr
          refine own_HG_same fun s' T locs ρ h X hZ hown eT I => ?_
          rcases I.1 t _ hH with q | ⟨-, q⟩
          · exact absurd q hc.1
          · exact getF X hx hZ hown (host := "") (Or.inl w) Via.refl eT (q fi v f hv hf hc.2) (g := mkF m pc (own_ls ρ σ τ ls) (own_st ρ σ τ (.ref t :: rest))) rfl rfl hd
        · cases hr
      · cases hr
    · cases hr
  · cases hr
def own_fit : FieldType → Value → Bool
  | .int, .int _ => true
  | .int, .retAddr _ => true
  | .long, .long _ => true
  | .long, .double _ => true
  | .boolean, .int x => decide (x = 0 ∨ x = 1)
  | .object _, .ref _ => true
  | .object _, .null => true
  | .array _, .ref _ => true
  | .array _, .null => true
  | _, _ => false
theorem own_fit_ok {ρ : Nat → Addr} {ty : FieldType} {v : Value} (h : own_fit ty v = true) : narrow ty (own_val ρ σ τ v) = own_val ρ σ τ v ∧ fits ty (own_val ρ σ τ v) = true := by
  unfold own_fit at h
  split at h <;> first | exact ⟨rfl, rfl⟩ | (cases h; done) | skip
  rename_i x
  rcases of_decide_eq_true h with rfl | rfl <;> exact ⟨rfl, rfl⟩
theorem own_fit_known {ty : FieldType} {v : Value} (h : own_fit ty v = true) : own_known v = true := by
  unfold own_fit at h
  split at h <;> first | rfl | (cases h; done)
/-- the class's fields in the table lie in places of their own -/
def own_CF (Z : State) (a0 : Array Value) (FT : List (String × String × String)) (C : String) : Prop :=
  (∀ (i : Nat) (f : String × String × String), FT[i]? = some f → Laid Z a0 C f.1 f.2.1 f.2.2 ∧ ∃ ty, parseFieldDescriptor f.2.2 = some ty) ∧ ∀ (i j : Nat) (f g : String × String × String), FT[i]? = some f → FT[j]? = some g → i ≠ j → f.2.1 ≠ g.2.1
def own_gP (pc fi N0 : Nat) (C : String) (ty : FieldType) : Nat × own_HHook := (pc, fun _ st H cs sl => match st with
  | v :: .ref t :: rest => match H[t]? with
    | some (none, C', vs) => match vs[fi]? with
      | some old => if C' = C ∧ C ≠ "" ∧ N0 ≤ t ∧ own_known old = true ∧ own_fit ty v = true then some (pc + 3, rest, H.set t (none, C', vs.set fi v), cs, sl) else none
      | none => none
    | _ => none
  | _ => none)
theorem own_gP_ok (hx : p.tables.exec = Jvm.exec) {f : String × String × String} {index pc fi kk : Nat} {C : String} {ty : FieldType} (w : (Cond.fieldLink own index f.1 f.2.1 f.2.2).before a0 Z = true) (hf : FT[fi]? = some f) (hCF : own_CF Z a0 FT C) (L : (Cond.lays C f.1 f.2.1 f.2.2).before a0 Z = true ∨ ((Cond.laysFinal C f.1 f.2.1 f.2.2).before a0 Z = true ∧ own = f.1 ∧ meth.name = "<init>"))
    (wi : (Cond.instantiable C kk).before a0 Z = true) (hty : parseFieldDescriptor f.2.2 = some ty) (hd : decode c.code pc = .ok (.putfield index, 3)) : own_HOk Z n0 N0 FT SF σ τ p l e R m args below meth c own B (own_gP pc fi N0 C ty) := by
  intro ls st H cs sl r hl hr
  unfold own_gP at hr
  simp only at hr
  split at hr
  · rename_i v t rest
    split at hr
    · rename_i C' vs hH
      split at hr
      · rename_i old hv
        split at hr
        · rename_i hc; obtain ⟨rfl, hn, hN, hk, hfit⟩ := hc; cases hr
          refine own_HG_wr hH hN hn fun s' T locs ρ h X hZ hown eT I => ?_
          obtain ⟨EX, q⟩ : Exa Z h (ρ t) C' ∧ ∀ (i : Nat) (v : Value) (f : String × String × String), vs[i]? = some v → FT[i]? = some f → own_known v = true → Fld Z h (ρ t) f.1 f.2.1 f.2.2 (own_val ρ σ τ v) := by
            rcases I.1 t _ hH with q | q
            · exact absurd q hn
            · exact q
          obtain ⟨f1, f2⟩ := own_fit_ok (σ := σ) (τ := τ) (ρ := ρ) hfit
          obtain ⟨T', h', X', e', W, k'⟩ := putF X hx hZ hown (host := "") (Or.inl w) Via.refl eT (v := own_val ρ σ τ v) (q fi old f hv hf hk) EX L wi hty f1 f2 (g := mkF m pc (own_ls ρ σ τ ls) (own_st ρ σ τ (v :: .ref t :: rest))) rfl rfl hd
          refine ⟨T', h', _, _, X', e', W, Or.inr ⟨EX.wr W, fun i z g hi hg hkz => ?_⟩, k'⟩
          by_cases e : i = fi
          · subst e
            cases hf.symm.trans hg
            have lt := (List.getElem?_eq_some_iff.mp hv).1
            rw [List.getElem?_set_self lt] at hi
            cases hi
            exact (q i old f hv hf hk).same W
          · rw [List.getElem?_set_ne (Ne.symm e)] at hi
            obtain ⟨l1, t1, l2⟩ := hCF.1 i g hg
            obtain ⟨l3, t3, l4⟩ := hCF.1 fi f hf
            exact (q i z g hi hg hkz).other W (Or.inr (slot_ne l1 l3 (hCF.2 i fi g f hg hf e) l2 l4))
        · cases hr
      · cases hr
    · cases hr
  · cases hr
def own_okNow (ls : List Slot) (st : List Value) (H : own_H) : Bool := own_wfH H.length H && ls.all (own_wfS H.length) && st.all (own_wf H.length)
/-- 'new' -/
def own_gN (pc RC RS k : Nat) (C : String) (vals : List Value) : Nat × own_HHook := (pc, fun ls st H cs sl => if own_okNow ls st H = true ∧ cs + 1 ≤ RC ∧ sl + k ≤ RS then some (pc + 3, .ref H.length :: st, H ++ [(none, C, vals)], cs + 1, sl + k) else none)
theorem own_HG_new {pc pc' cs sl cs' sl' : Nat} {ls : List Slot} {st st' rest : List Value} {H : own_H} {o : own_O} (wS : ∀ q ∈ SF, own_wf N0 q.2.2.2 = true) (hB : ∀ s k k', B s k → k ≤ k' → B s k') (hok : own_okNow ls rest H = true) (ho : o.2.2.all (own_wf 0) = true) (hst : st' = .ref H.length :: rest)
    (k : ∀ s' T locs ρ h, Stand p l e R s' m args below meth c T locs cs sl → Z.Warmed39 s'.vm → s'.vm.findClass own = some m.cls → T.heap = h → ∃ T' h' a, Stand p l e R s' m args below meth c T' locs cs' sl' ∧ T'.heap = h' ∧ Ext h h' ∧ (o.2.1 ≠ "" → h.size ≤ a) ∧ (∀ r : Value → Value, (∀ v, own_wf 0 v = true → r v = own_val (fun _ => 0) σ τ v) → own_Obj Z FT r h' a o) ∧
      ∀ target, Steps p.tables e below (T'.setTop (mkF m pc' (own_ls ρ σ τ ls) (.ref a :: own_st ρ σ τ rest))) target → Steps p.tables e below (T.setTop (mkF m pc (own_ls ρ σ τ ls) (own_st ρ σ τ st))) target) :
    own_HG Z n0 N0 FT SF σ τ p l e R m args below meth c own B pc ls st H cs sl pc' ls st' (H ++ [o]) cs' sl' := by
  subst hst
  rintro s' T ρ ⟨locs, X, N, I, hb, hZ, hown⟩
  simp only [own_okNow, Bool.and_eq_true] at hok
  obtain ⟨T', h', a, X', e', E, ha, F, k'⟩ := k s' T locs ρ T.heap X hZ hown rfl
  have q : ∀ t, t < H.length → (fun t => if t = H.length then a else ρ t) t = ρ t := fun t ht => by simp [Nat.ne_of_lt ht]
  refine ⟨s', T', fun t => if t = H.length then a else ρ t, ⟨locs, X', N, by rw [e']; exact own_Inv_new E wS hok.1.1 I F ho ha, hB _ _ _ hb (by rw [e']; exact E.1), hZ, hown⟩, q, by simp, by rw [e']; exact E.1, fun target st => k' target ?_⟩
  have e1 : own_ls (fun t => if t = H.length then a else ρ t) σ τ ls = own_ls ρ σ τ ls := own_agreeS q hok.1.2
  have e2 : own_st (fun t => if t = H.length then a else ρ t) σ τ (.ref H.length :: rest) = .ref a :: own_st ρ σ τ rest := by
    show Value.ref (if H.length = H.length then a else ρ H.length) :: rest.map _ = _
    rw [if_pos rfl, own_agreeL q hok.2]
  rw [e1, e2] at st
  exact st
theorem own_gN_ok (hx : p.tables.exec = Jvm.exec) (wS : ∀ q ∈ SF, own_wf N0 q.2.2.2 = true) (hB : ∀ s k k', B s k → k ≤ k' → B s k') {index pc RC RS k : Nat} {C : String} {vals : List Value} (hC : C ≠ "") (w : (Cond.classLink own index C).before a0 Z = true) (wi : (Cond.instantiable C k).before a0 Z = true) (wz : (Cond.initialized C).before a0 Z = true)
    (hRC : RC ≤ R.cells) (hRS : RS ≤ R.slots) (hvals : ∀ (i : Nat) (v : Value) (f : String × String × String), vals[i]? = some v → FT[i]? = some f → own_known v = true → Laid Z a0 C f.1 f.2.1 f.2.2 ∧ ∃ ty, parseFieldDescriptor f.2.2 = some ty ∧ v = defaultValue ty ∧ own_val (fun _ => 0) σ τ v = v) (hwf : vals.all (own_wf 0) = true) (hd : decode c.code pc = .ok (.new index, 3)) : own_HOk Z n0 N0 FT SF σ τ p l e R m args below meth c own B (own_gN pc RC RS k C vals) := by
  intro ls st H cs sl r hl hr
  unfold own_gN at hr
  simp only at hr
  split at hr
  · rename_i hc; cases hr
    refine own_HG_new wS hB hc.1 hwf rfl fun s' T locs ρ h X hZ hown eT => ?_
    obtain ⟨T', h', X', e', E, EX, D, -, k'⟩ := newO X hx hZ hown w wi wz eT (g := mkF m pc (own_ls ρ σ τ ls) (own_st ρ σ τ st)) rfl hd (by omega) (by omega)
    refine ⟨T', h', h.size, X', e', E, fun _ => Nat.le_refl _, fun r hr => Or.inr ⟨EX, fun i v f hi hf hk => ?_⟩, k'⟩
    obtain ⟨L, ty, ht, rfl, dv⟩ := hvals i v f hi hf hk
    rw [hr _ (List.all_eq_true.mp hwf _ (List.mem_of_getElem? hi))]
    rw [dv]
    exact D L ht
  · cases hr
/-- 'newarray' -/
def own_gA (pc RC RS : Nat) (ty : FieldType) : Nat × own_HHook := (pc, fun ls st H cs sl => match st with
  | .int n :: rest => if own_okNow ls rest H = true ∧ ¬ n < 0 ∧ n.toNatClampNeg * 8 ≤ 536870912 ∧ cs + 1 ≤ RC ∧ sl + n.toNatClampNeg ≤ RS then some (pc + 2, .ref H.length :: rest, H ++ [(some ty, "A", List.replicate n.toNatClampNeg (defaultValue ty))], cs + 1, sl + n.toNatClampNeg) else none
  | _ => none)
theorem own_newArv {h : Heap} {a : Addr} {k : ClassId} {ty : FieldType} {n : Int32} (A : Arr Z h a (newA k ty n) ty) (hn : ¬ n < 0) {r : Value → Value} (hr : r (defaultValue ty) = defaultValue ty) : Arv Z h a k ty (Int32.ofNat (List.replicate n.toNatClampNeg (defaultValue ty)).length) ((List.replicate n.toNatClampNeg (defaultValue ty)).map r) (defaultValue ty) := by
  have e1 : Int32.ofNat (List.replicate n.toNatClampNeg (defaultValue ty)).length = n := by
    rw [List.length_replicate]; exact (back32 hn).1
  rw [e1]
  refine (Arv.new A hn).pad fun i => ?_
  rw [List.map_replicate, hr]
  simp only [List.getD, List.getElem?_replicate]
  split <;> rfl
theorem own_gA_ok (hx : p.tables.exec = Jvm.exec) (wS : ∀ q ∈ SF, own_wf N0 q.2.2.2 = true) (hB : ∀ s k k', B s k → k ≤ k' → B s k') {aty : ArrayType} {pc RC RS : Nat} {ty : FieldType} (hty : newarray.typeOf aty = ty) (w : (Cond.arrayClass ty).before a0 Z = true) (hRC : RC ≤ R.cells) (hRS : RS ≤ R.slots) (hdv : own_wf 0 (defaultValue ty) = true) (hdv2 : ∀ σ τ, own_val (fun _ => 0) σ τ (defaultValue ty) = defaultValue ty) (hno : ∀ C, ty ≠ .object C) (hd : decode c.code pc = .ok (.newarray aty, 2)) : own_HOk Z n0 N0 FT SF σ τ p l e R m args below meth c own B (own_gA pc RC RS ty) := by
  subst hty
  intro ls st H cs sl r hl hr
  unfold own_gA at hr
  simp only at hr
  split at hr
  · rename_i n rest
    split at hr
    · rename_i hc; cases hr
      obtain ⟨h1, h2, h3, h4, h5⟩ := hc
      refine own_HG_new wS hB h1 (by simp [hdv]) rfl fun s' T locs ρ h X hZ hown eT => ?_
      obtain ⟨T', h', cA, X', e', E, A, k'⟩ := newP X hx hZ w eT (g := mkF m pc (own_ls ρ σ τ ls) (own_st ρ σ τ (.int n :: rest))) rfl hd rfl h2 (Nat.le_refl _) h3 (by omega) (by omega)
      exact ⟨T', h', h.size, X', e', E, fun _ => Nat.le_refl _, fun r hr => Or.inr ⟨cA, own_newArv A h2 (by rw [hr _ hdv, hdv2]), by
        have := back32 h2; simp; omega, fun C q => absurd q (hno C)⟩, k'⟩
    · cases hr
  · cases hr
/-- 'anewarray' -/
def own_gR (pc RC RS : Nat) (C : String) : Nat × own_HHook := (pc, fun ls st H cs sl => match st with
  | .int n :: rest => if own_okNow ls rest H = true ∧ ¬ n < 0 ∧ n.toNatClampNeg * 8 ≤ 536870912 ∧ cs + 1 ≤ RC ∧ sl + n.toNatClampNeg ≤ RS then some (pc + 3, .ref H.length :: rest, H ++ [(some (.object C), "A", List.replicate n.toNatClampNeg .null)], cs + 1, sl + n.toNatClampNeg) else none
  | _ => none)
theorem own_gR_ok (hx : p.tables.exec = Jvm.exec) (wS : ∀ q ∈ SF, own_wf N0 q.2.2.2 = true) (hB : ∀ s k k', B s k → k ≤ k' → B s k') {pc index RC RS : Nat} {C : String} (w1 : (Cond.classLink own index C).before a0 Z = true) (w2 : (Cond.arrayOver (.object C)).before a0 Z = true) (hRC : RC ≤ R.cells) (hRS : RS ≤ R.slots) (hd : decode c.code pc = .ok (.anewarray index, 3)) : own_HOk Z n0 N0 FT SF σ τ p l e R m args below meth c own B (own_gR pc RC RS C) := by
  intro ls st H cs sl r hl hr
  unfold own_gR at hr
  simp only at hr
  split at hr
  · rename_i n rest
    split at hr
    · rename_i hc; cases hr
      obtain ⟨h1, h2, h3, h4, h5⟩ := hc
      refine own_HG_new wS hB h1 (by simp [own_wf]) rfl fun s' T locs ρ h X hZ hown eT => ?_
      obtain ⟨T', h', cA, X', e', E, A, O, k'⟩ := newR X hx hZ hown w1 w2 eT (g := mkF m pc (own_ls ρ σ τ ls) (own_st ρ σ τ (.int n :: rest))) rfl hd rfl h2 (Nat.le_refl _) h3 (by omega) (by omega)
      exact ⟨T', h', h.size, X', e', E, fun _ => Nat.le_refl _, fun r hr => Or.inr ⟨cA, own_newArv A h2 (by rw [show defaultValue (.object C) = Value.null from rfl, hr _ rfl]; rfl), by
        have := back32 h2; simp; omega, fun D q => by cases q; exact O⟩, k'⟩
    · cases hr
  · cases hr
/-- Object.<init> -/
def own_gI (pc W : Nat) : Nat × own_HHook := (pc, fun _ st H cs sl => match st with
  | .ref t :: rest => if (rest.map fun v => v.category).sum ≤ W then some (pc + 3, rest, H, cs, sl) else none
  | _ => none)
theorem own_gI_ok (hx : p.tables.exec = Jvm.exec) {index pc W : Nat} (w1 : (Cond.methodLink own index Lib.objectInit).before a0 Z = true) (w2 : (Cond.instanceMethod Lib.objectInit).before a0 Z = true) (w3 : (Cond.code Lib.objectInit ⟨#[0xb1]⟩ 1 none).before a0 Z = true) (hfr : 1 ≤ R.frames) (hlo : W + 12 ≤ R.locals) (hd : decode c.code pc = .ok (.invokespecial index, 3)) : own_HOk Z n0 N0 FT SF σ τ p l e R m args below meth c own B (own_gI pc W) := by
  intro ls st H cs sl r hl hr
  unfold own_gI at hr
  simp only at hr
  split at hr
  · rename_i t rest
    split at hr
    · rename_i hc; cases hr
      exact own_HG_same fun s' T locs ρ h X hZ hown eT I => initO X hx hZ hown w1 w2 w3 eT (g := mkF m pc (own_ls ρ σ τ ls) (own_st ρ σ τ (.ref t :: rest))) rfl (by simpa using hl) (rest := own_st ρ σ τ rest) rfl hd hfr (W := W) (by show 2 * 0 + _ ≤ _; rw [own_sum]; omega) hlo
    · cases hr
  · cases hr
end OwnHeapHooks
section OwnHeapCalls
/-- what a method's contract says of the end: what it returns, the heap, the places written -/
def own_QH (Z : State) (n0 N0 : Nat) (FT : List (String × String × String)) (SF : List (String × String × String × Value)) (σ : Nat → Int32) (τ : Nat → Int64) (ρ : Nat → Addr) (H : own_H) (h : Heap) (v : Option Value) (H' : own_H) (v' : Option Value) (h' : Heap) (L : List Loc) : Prop :=
  Fr n0 L ∧ ∃ ρ', (∀ t, t < H.length → ρ' t = ρ t) ∧ H.length ≤ H'.length ∧ v' = v.map (own_val ρ' σ τ) ∧ own_Inv Z n0 N0 FT SF σ τ ρ' H' h' ∧ h.size ≤ h'.size
abbrev own_MetW (Z : State) (n0 N0 : Nat) (FT : List (String × String × String)) (SF : List (String × String × String × Value)) (σ : Nat → Int32) (τ : Nat → Int64) (l : Launch) (y : MethodName) (bytes : ByteArray) (maxL : Nat) (ret : Option FieldType) (rm : Room) (ws : List Jvm.Cond) (ρ : Nat → Addr) (H : own_H) (h : Heap) (as : List Value) (v : Option Value) (H' : own_H) : Prop :=
  MetFree l y (head1 (Jvm.Cond.code y bytes maxL ret :: ws) rm) (fun a U => a = (as.map (own_val ρ σ τ)).toArray ∧ Z.Warmed39 U.vm ∧ U.heap = h) (fun _ _ _ _ _ => True) (fun _ U o U' => ∃ v' L, o = .returned v' ∧ own_QH Z n0 N0 FT SF σ τ ρ H h v H' v' U'.heap L ∧ ReturnedEndW U o U' L rm.cells rm.slots)
abbrev own_MetN (Z : State) (n0 N0 : Nat) (FT : List (String × String × String)) (SF : List (String × String × String × Value)) (σ : Nat → Int32) (τ : Nat → Int64) (l : Launch) (y : MethodName) (bytes : ByteArray) (maxL : Nat) (ret : Option FieldType) (rm : Room) (ws : List Jvm.Cond) (ρ : Nat → Addr) (H : own_H) (h : Heap) (as : List Value) (v : Option Value) (H' : own_H) : Prop :=
  MetFree l y (head1 (Jvm.Cond.code y bytes maxL ret :: ws) rm) (fun a U => a = (as.map (own_val ρ σ τ)).toArray ∧ Z.Warmed39 U.vm ∧ U.heap = h) (fun _ _ _ _ _ => True) (fun _ U o U' => ∃ v' L, o = .returned v' ∧ own_QH Z n0 N0 FT SF σ τ ρ H h v H' v' U'.heap L ∧ FrameEnd U o U' L rm.cells rm.slots)
def own_BN (s s' : State) (_ : Nat) : Prop := s' = s
def own_BW (s s' : State) (k : Nat) : Prop := ∃ vm0 k0, s' = s.setVm vm0 ∧ s.Since vm0 k0 ∧ k0 ≤ k
theorem own_BN_mono {s : State} : ∀ s' k k', own_BN s s' k → k ≤ k' → own_BN s s' k' := fun _ _ _ h _ => h
theorem own_BW_mono {s : State} : ∀ s' k k', own_BW s s' k → k ≤ k' → own_BW s s' k' := fun _ _ _ ⟨a, b, c, d, e⟩ q => ⟨a, b, c, d, Nat.le_trans e q⟩
theorem own_BW_step {s : State} : ∀ s' k vm k', own_BW s s' k → s'.Since vm k' → k ≤ k' → own_BW s (s'.setVm vm) k' := fun s' k vm k' ⟨a, b, c, d, e⟩ h q => by
  subst c
  exact ⟨vm, k', rfl, d.trans h (Nat.le_trans e q), Nat.le_refl _⟩
variable {Z : State} {n0 N0 : Nat} {FT : List (String × String × String)} {SF : List (String × String × String × Value)} {σ : Nat → Int32} {τ : Nat → Int64} {p : Program} {l : Launch} {e : Env} {R : Room} {m : MethodId} {args : Array Value} {below : List Frame} {meth : Method} {c : Code} {own : String} {B : State → Nat → Prop} {a0 : Array Value}
def own_recv (C : String) (H : own_H) : List Value → Bool
  | .ref t :: _ => match H[t]? with
    | some (none, C', _) => decide (C' = C ∧ C ≠ "")
    | _ => false
  | _ => false
/-- a call: k words of the stack are handed over; kind 0: static, 1: on an object of the class C, 2: on any object -/
def own_gCall (pc k W RC RS rc rs kind : Nat) (C : String) (φ : List Value → own_H → Option (Option Value × own_H)) : Nat × own_HHook := (pc, fun ls st H cs sl =>
  if k ≤ st.length ∧ own_okNow ls (st.drop k) H = true ∧ ((st.drop k).map fun v => v.category).sum ≤ W ∧ cs + rc ≤ RC ∧ sl + rs ≤ RS ∧ (kind = 0 ∨ (kind = 1 ∧ own_recv C H (st.take k).reverse = true) ∨ kind = 2) then (φ (st.take k).reverse H).map fun q => (pc + 3, q.1.toList ++ st.drop k, q.2, cs + rc, sl + rs) else none)
theorem own_HG_call {pc cs sl rc rs : Nat} {ls : List Slot} {st rest : List Value} {H H' : own_H} {v : Option Value} (hok : own_okNow ls rest H = true)
    (k : ∀ s' T locs ρ, Stand p l e R s' m args below meth c T locs cs sl → Z.Warmed39 s'.vm → s'.vm.findClass own = some m.cls → own_Inv Z n0 N0 FT SF σ τ ρ H T.heap → B s' T.heap.size → ∃ v' s'' T' L, Stand p l e R s'' m args below meth c T' (locs ++ L) (cs + rc) (sl + rs) ∧ own_QH Z n0 N0 FT SF σ τ ρ H T.heap v H' v' T'.heap L ∧ B s'' T'.heap.size ∧ Z.Warmed39 s''.vm ∧ s''.vm.findClass own = some m.cls ∧
      ∀ target, Steps p.tables e below (T'.setTop (mkF m (pc + 3) (own_ls ρ σ τ ls) (v'.toList ++ own_st ρ σ τ rest))) target → Steps p.tables e below (T.setTop (mkF m pc (own_ls ρ σ τ ls) (own_st ρ σ τ st))) target) :
    own_HG Z n0 N0 FT SF σ τ p l e R m args below meth c own B pc ls st H cs sl (pc + 3) ls (v.toList ++ rest) H' (cs + rc) (sl + rs) := by
  rintro s' T ρ ⟨locs, X, N, I, hb, hZ, hown⟩
  simp only [own_okNow, Bool.and_eq_true] at hok
  obtain ⟨v', s'', T', L, X', ⟨N', ρ', ag, hlen, rfl, I', hsz⟩, hb', hZ', hown', k'⟩ := k s' T locs ρ X hZ hown I hb
  refine ⟨s'', T', ρ', ⟨_, X', Fr.app N N', I', hb', hZ', hown'⟩, ag, hlen, hsz, fun target st => k' target ?_⟩
  have e1 : own_ls ρ' σ τ ls = own_ls ρ σ τ ls := own_agreeS ag hok.1.2
  have e2 : own_st ρ' σ τ (v.toList ++ rest) = (v.map (own_val ρ' σ τ)).toList ++ own_st ρ σ τ rest := by
    show (v.toList ++ rest).map _ = _
    rw [List.map_append, own_agreeL ag hok.2]
    cases v <;> rfl
  rw [e1, e2] at st
  exact st
theorem own_argsRest {ρ : Nat → Addr} (st : List Value) (k : Nat) : own_st ρ σ τ st = ((st.take k).reverse.map (own_val ρ σ τ)).reverse ++ own_st ρ σ τ (st.drop k) := by
  rw [← List.map_reverse, List.reverse_reverse, ← List.map_append, List.take_append_drop]
/-- invokestatic -/
theorem own_gC_ok (hx : p.tables.exec = Jvm.exec) (hBW : ∀ s' k vm k', B s' k → s'.Since vm k' → k ≤ k' → B (s'.setVm vm) k') {index pc k W RC RS : Nat} {C : String} {y : MethodName} {bytes : ByteArray} {maxL : Nat} {ret : Option FieldType} {rm : Room}
    (wl : (Cond.methodLink own index y).before a0 Z = true) (ws : (Cond.static y).before a0 Z = true) (wi : (Cond.initialized y.cls).before a0 Z = true) (wc : (Cond.code y bytes maxL ret).before a0 Z = true) (hy : y.cls ≠ "java/lang/invoke/MethodHandle" ∧ y.cls ≠ "java/lang/invoke/VarHandle")
    {ps : List FieldType} {rt : Option FieldType} (pd : parseMethodDescriptor y.desc = some ⟨ps, rt⟩) (hn : k = ps.length) (hRC : RC ≤ R.cells) (hRS : RS ≤ R.slots) (hfr : rm.frames + 1 ≤ R.frames) (hlo : W + (maxL + 11) + rm.locals ≤ R.locals)
    {φ : List Value → own_H → Option (Option Value × own_H)} (hM : ∀ as H v H', φ as H = some (v, H') → ∀ ρ h, own_Inv Z n0 N0 FT SF σ τ ρ H h → own_MetW Z n0 N0 FT SF σ τ l y bytes maxL ret rm [] ρ H h as v H') (hd : decode c.code pc = .ok (.invokestatic index, 3)) :
    own_HOk Z n0 N0 FT SF σ τ p l e R m args below meth c own B (own_gCall pc k W RC RS rm.cells rm.slots 0 C φ) := by
  intro ls st H cs sl r hl hr
  unfold own_gCall at hr
  simp only at hr
  split at hr
  · rename_i hg
    obtain ⟨h1, h2, h3, h4, h5, -⟩ := hg
    obtain ⟨⟨v, H'⟩, q1, q2⟩ := Option.map_eq_some_iff.mp hr
    cases q2
    refine own_HG_call h2 fun s' T locs ρ X hZ hown I hb => ?_
    have hlen : ((st.take k).reverse.map (own_val ρ σ τ)).length = ps.length := by simp [h1, ← hn]
    obtain ⟨v', vm1, ⟨T', L', k', n'⟩, hw1, X', hS, hsz, ⟨L, hQ, q1, q2, q3⟩, stp⟩ := callSS X hx hown (mvT hZ wl) (mvT hZ ws) (mvT hZ wi) (mvT hZ wc) hy (backOfS (Q := fun v' h' L => own_QH Z n0 N0 FT SF σ τ ρ H T.heap v H' v' h' L) (W := W) (hM _ _ _ _ q1 ρ T.heap I) hZ wc wi hfr hlo)
      (g := mkF m pc (own_ls ρ σ τ ls) (own_st ρ σ τ st)) rfl (by simpa using hl) (argsL := (st.take k).reverse.map (own_val ρ σ τ)) (rest := own_st ρ σ τ (st.drop k)) (lenOf pd hlen) (own_argsRest st k) (by show 2 * 0 + _ ≤ _; rw [own_sum]; omega) hd (fun _ _ => ⟨rfl, rfl, Nat.le_trans h4 hRC, Nat.le_trans h5 hRS⟩)
    dsimp only [Pt.U, Pt.locs, Pt.cells, Pt.slots] at X' hS hsz hQ q1 q2 q3 stp
    subst q1 q2 q3
    exact ⟨v', _, T', L, X', hQ, hBW _ _ _ _ hb hS hsz, State.Warmed39.trans (t := s') hZ hS.1, by rw [show (s'.setVm T'.vm).vm = T'.vm from rfl, hS.1.alike.findClass]; exact hown, fun _ q => stp.trans q⟩
  · cases hr
/-- invokevirtual on an object of the class C -/
theorem own_gV_ok (hx : p.tables.exec = Jvm.exec) (hBW : ∀ s' k vm k', B s' k → s'.Since vm k' → k ≤ k' → B (s'.setVm vm) k') {index pc k W RC RS : Nat} {C : String} {y : MethodName} {bytes : ByteArray} {maxL : Nat} {ret : Option FieldType} {rm : Room}
    (wl : (Cond.methodLink own index y).before a0 Z = true) (wd : (Cond.declares y).before a0 Z = true) (wsel : (Cond.selects C y y).before a0 Z = true) (wm : (Cond.instanceMethod y).before a0 Z = true) (wi : (Cond.initialized y.cls).before a0 Z = true) (wc : (Cond.code y bytes maxL ret).before a0 Z = true) (hy : y.cls ≠ "java/lang/invoke/MethodHandle" ∧ y.cls ≠ "java/lang/invoke/VarHandle")
    {ps : List FieldType} {rt : Option FieldType} (pd : parseMethodDescriptor y.desc = some ⟨ps, rt⟩) (hn : k = ps.length + 1) (hRC : RC ≤ R.cells) (hRS : RS ≤ R.slots) (hfr : rm.frames + 1 ≤ R.frames) (hlo : W + (maxL + 11) + rm.locals ≤ R.locals)
    {φ : List Value → own_H → Option (Option Value × own_H)} (hM : ∀ as H v H', φ as H = some (v, H') → ∀ ρ h, own_Inv Z n0 N0 FT SF σ τ ρ H h → own_MetW Z n0 N0 FT SF σ τ l y bytes maxL ret rm [] ρ H h as v H') (hd : decode c.code pc = .ok (.invokevirtual index, 3)) :
    own_HOk Z n0 N0 FT SF σ τ p l e R m args below meth c own B (own_gCall pc k W RC RS rm.cells rm.slots 1 C φ) := by
  intro ls st H cs sl r hl hr
  unfold own_gCall at hr
  simp only at hr
  split at hr
  · rename_i hg
    obtain ⟨h1, h2, h3, h4, h5, h6⟩ := hg
    have h6' : own_recv C H (st.take k).reverse = true := by rcases h6 with q | q | q <;> first | (cases q; done) | exact q.2
    obtain ⟨⟨v, H'⟩, q1, q2⟩ := Option.map_eq_some_iff.mp hr
    cases q2
    obtain ⟨t, as, vs, ea, hH, hC⟩ : ∃ t as vs, (st.take k).reverse = .ref t :: as ∧ H[t]? = some (none, C, vs) ∧ C ≠ "" := by
      unfold own_recv at h6'
      split at h6'
      · rename_i t as ea
        split at h6'
        · rename_i C' vs hH
          obtain ⟨rfl, hC⟩ := of_decide_eq_true h6'
          exact ⟨t, as, vs, ea, hH, hC⟩
        · cases h6'
      · cases h6'
    refine own_HG_call h2 fun s' T locs ρ X hZ hown I hb => ?_
    have EX : Exa Z T.heap (ρ t) C := by
      rcases I.1 t _ hH with q | q
      · exact absurd q hC
      · exact q.1
    have hlen0 : (st.take k).reverse.length = k := by simp [h1]
    rw [ea, List.length_cons] at hlen0
    have hlen : (as.map (own_val ρ σ τ)).length = ps.length := by simp; omega
    have hst : own_st ρ σ τ st = (as.map (own_val ρ σ τ)).reverse ++ .ref (ρ t) :: own_st ρ σ τ (st.drop k) := by
      rw [own_argsRest st k, ea]; simp [own_val]
    obtain ⟨cq, kq, qa, qb, qc⟩ := isOf hZ rfl EX
    have hM' := hM _ _ _ _ q1 ρ T.heap I
    rw [ea] at hM'
    obtain ⟨v', vm1, ⟨T', L', k', n'⟩, hw1, X', hS, hsz, ⟨L, hQ, q1, q2, q3⟩, stp⟩ := X.virtualBackS hx (y := y) (z := y) hown (mvT hZ wl) (mvT hZ wd) (notFace_of_selects (args := #[]) (mvT hZ wsel)) (mvT hZ wsel) (mvT hZ wm) hy
      (backOfS (Q := fun v' h' L => own_QH Z n0 N0 FT SF σ τ ρ H T.heap v H' v' h' L) (W := W) hM' hZ wc wi hfr hlo) qa qc
      (g := mkF m pc (own_ls ρ σ τ ls) (own_st ρ σ τ st)) rfl (by simpa using hl) (Steps.refl _) (argsL := as.map (own_val ρ σ τ)) (rest := own_st ρ σ τ (st.drop k)) (lenOf pd hlen) hst (by show 2 * 0 + _ ≤ _; rw [own_sum]; omega) hd (fun _ _ => ⟨rfl, rfl, Nat.le_trans h4 hRC, Nat.le_trans h5 hRS⟩)
    dsimp only [Pt.U, Pt.locs, Pt.cells, Pt.slots] at X' hS hsz hQ q1 q2 q3 stp
    subst q1 q2 q3
    exact ⟨v', _, T', L, X', hQ, hBW _ _ _ _ hb hS hsz, State.Warmed39.trans (t := s') hZ hS.1, by rw [show (s'.setVm T'.vm).vm = T'.vm from rfl, hS.1.alike.findClass]; exact hown, fun _ q => stp.trans q⟩
  · cases hr
/-- .. by a callee that interns nothing -/
theorem own_gVN_ok (hx : p.tables.exec = Jvm.exec) (hB : ∀ s k k', B s k → k ≤ k' → B s k') {index pc k W RC RS : Nat} {C : String} {y : MethodName} {bytes : ByteArray} {maxL : Nat} {ret : Option FieldType} {rm : Room}
    (wl : (Cond.methodLink own index y).before a0 Z = true) (wd : (Cond.declares y).before a0 Z = true) (wsel : (Cond.selects C y y).before a0 Z = true) (wm : (Cond.instanceMethod y).before a0 Z = true) (wi : (Cond.initialized y.cls).before a0 Z = true) (wc : (Cond.code y bytes maxL ret).before a0 Z = true) (hy : y.cls ≠ "java/lang/invoke/MethodHandle" ∧ y.cls ≠ "java/lang/invoke/VarHandle")
    {ps : List FieldType} {rt : Option FieldType} (pd : parseMethodDescriptor y.desc = some ⟨ps, rt⟩) (hn : k = ps.length + 1) (hRC : RC ≤ R.cells) (hRS : RS ≤ R.slots) (hfr : rm.frames + 1 ≤ R.frames) (hlo : W + (maxL + 11) + rm.locals ≤ R.locals)
    {φ : List Value → own_H → Option (Option Value × own_H)} (hM : ∀ as H v H', φ as H = some (v, H') → ∀ ρ h, own_Inv Z n0 N0 FT SF σ τ ρ H h → own_MetN Z n0 N0 FT SF σ τ l y bytes maxL ret rm [] ρ H h as v H') (hd : decode c.code pc = .ok (.invokevirtual index, 3)) :
    own_HOk Z n0 N0 FT SF σ τ p l e R m args below meth c own B (own_gCall pc k W RC RS rm.cells rm.slots 1 C φ) := by
  intro ls st H cs sl r hl hr
  unfold own_gCall at hr
  simp only at hr
  split at hr
  · rename_i hg
    obtain ⟨h1, h2, h3, h4, h5, h6⟩ := hg
    have h6' : own_recv C H (st.take k).reverse = true := by rcases h6 with q | q | q <;> first | (cases q; done) | exact q.2
    obtain ⟨⟨v, H'⟩, q1, q2⟩ := Option.map_eq_some_iff.mp hr
    cases q2
    obtain ⟨t, as, vs, ea, hH, hC⟩ : ∃ t as vs, (st.take k).reverse = .ref t :: as ∧ H[t]? = some (none, C, vs) ∧ C ≠ "" := by
      unfold own_recv at h6'
      split at h6'
      · rename_i t as ea
        split at h6'
        · rename_i C' vs hH
          obtain ⟨rfl, hC⟩ := of_decide_eq_true h6'
          exact ⟨t, as, vs, ea, hH, hC⟩
        · cases h6'
      · cases h6'
    refine own_HG_call h2 fun s' T locs ρ X hZ hown I hb => ?_
    have EX : Exa Z T.heap (ρ t) C := by
      rcases I.1 t _ hH with q | q
      · exact absurd q hC
      · exact q.1
    have hlen0 : (st.take k).reverse.length = k := by simp [h1]
    rw [ea, List.length_cons] at hlen0
    have hlen : (as.map (own_val ρ σ τ)).length = ps.length := by simp; omega
    have hst : own_st ρ σ τ st = (as.map (own_val ρ σ τ)).reverse ++ .ref (ρ t) :: own_st ρ σ τ (st.drop k) := by
      rw [own_argsRest st k, ea]; simp [own_val]
    obtain ⟨cq, kq, qa, qb, qc⟩ := isOf hZ rfl EX
    have hM' := hM _ _ _ _ q1 ρ T.heap I
    rw [ea] at hM'
    obtain ⟨v', vm1, ⟨T', L', k', n'⟩, hw1, X', ⟨L, hQ, q1, q2, q3⟩, stp⟩ := X.virtualBack hx (y := y) (z := y) hown (mvT hZ wl) (mvT hZ wd) (notFace_of_selects (args := #[]) (mvT hZ wsel)) (mvT hZ wsel) (mvT hZ wm) hy
      (backOf (Q := fun v' h' L => own_QH Z n0 N0 FT SF σ τ ρ H T.heap v H' v' h' L) (W := W) hM' hZ wc wi hfr hlo) qa qc
      (g := mkF m pc (own_ls ρ σ τ ls) (own_st ρ σ τ st)) rfl (by simpa using hl) (Steps.refl _) (argsL := as.map (own_val ρ σ τ)) (rest := own_st ρ σ τ (st.drop k)) (lenOf pd hlen) hst (by show 2 * 0 + _ ≤ _; rw [own_sum]; omega) hd (fun _ _ => ⟨rfl, rfl, Nat.le_trans h4 hRC, Nat.le_trans h5 hRS⟩)
    dsimp only [Pt.U, Pt.locs, Pt.cells, Pt.slots] at X' hQ q1 q2 q3 stp
    subst q1 q2 q3
    obtain ⟨hQ1, ρ', hQ2, hQ3, hQ4, hQ5, hQ6⟩ := hQ
    exact ⟨v', _, T', L, X', ⟨hQ1, ρ', hQ2, hQ3, hQ4, hQ5, hQ6⟩, hB _ _ _ hb hQ6, hZ, hown, fun _ q => stp.trans q⟩
  · cases hr
/-- invokevirtual of a private method -/
theorem own_gVP_ok (hx : p.tables.exec = Jvm.exec) (hBW : ∀ s' k vm k', B s' k → s'.Since vm k' → k ≤ k' → B (s'.setVm vm) k') {index pc k W RC RS : Nat} {C : String} {y : MethodName} {bytes : ByteArray} {maxL : Nat} {ret : Option FieldType} {rm : Room} (hyC : y.cls = C)
    (wl : (Cond.methodLink own index y).before a0 Z = true) (wm : (Cond.instanceMethod y).before a0 Z = true) (wsel : (Cond.selects y.cls y y).before a0 Z = true) (wp : (Cond.privateMethod y).before a0 Z = true) (wi : (Cond.initialized y.cls).before a0 Z = true) (wc : (Cond.code y bytes maxL ret).before a0 Z = true) (hy : y.cls ≠ "java/lang/invoke/MethodHandle" ∧ y.cls ≠ "java/lang/invoke/VarHandle")
    {ps : List FieldType} {rt : Option FieldType} (pd : parseMethodDescriptor y.desc = some ⟨ps, rt⟩) (hn : k = ps.length + 1) (hRC : RC ≤ R.cells) (hRS : RS ≤ R.slots) (hfr : rm.frames + 1 ≤ R.frames) (hlo : W + (maxL + 11) + rm.locals ≤ R.locals)
    {φ : List Value → own_H → Option (Option Value × own_H)} (hM : ∀ as H v H', φ as H = some (v, H') → ∀ ρ h, own_Inv Z n0 N0 FT SF σ τ ρ H h → own_MetW Z n0 N0 FT SF σ τ l y bytes maxL ret rm [] ρ H h as v H') (hd : decode c.code pc = .ok (.invokevirtual index, 3)) :
    own_HOk Z n0 N0 FT SF σ τ p l e R m args below meth c own B (own_gCall pc k W RC RS rm.cells rm.slots 1 C φ) := by
  intro ls st H cs sl r hl hr
  unfold own_gCall at hr
  simp only at hr
  split at hr
  · rename_i hg
    obtain ⟨h1, h2, h3, h4, h5, h6⟩ := hg
    have h6' : own_recv C H (st.take k).reverse = true := by rcases h6 with q | q | q <;> first | (cases q; done) | exact q.2
    obtain ⟨⟨v, H'⟩, q1, q2⟩ := Option.map_eq_some_iff.mp hr
    cases q2
    obtain ⟨t, as, vs, ea, hH, hC⟩ : ∃ t as vs, (st.take k).reverse = .ref t :: as ∧ H[t]? = some (none, C, vs) ∧ C ≠ "" := by
      unfold own_recv at h6'
      split at h6'
      · rename_i t as ea
        split at h6'
        · rename_i C' vs hH
          obtain ⟨rfl, hC⟩ := of_decide_eq_true h6'
          exact ⟨t, as, vs, ea, hH, hC⟩
        · cases h6'
      · cases h6'
    refine own_HG_call h2 fun s' T locs ρ X hZ hown I hb => ?_
    have EX : Exa Z T.heap (ρ t) C := by
      rcases I.1 t _ hH with q | q
      · exact absurd q hC
      · exact q.1
    have hlen0 : (st.take k).reverse.length = k := by simp [h1]
    rw [ea, List.length_cons] at hlen0
    have hlen : (as.map (own_val ρ σ τ)).length = ps.length := by simp; omega
    have hst : own_st ρ σ τ st = (as.map (own_val ρ σ τ)).reverse ++ .ref (ρ t) :: own_st ρ σ τ (st.drop k) := by
      rw [own_argsRest st k, ea]; simp [own_val]
    obtain ⟨cq, q5, q5'⟩ := EX.cell
    have hM' := hM _ _ _ _ q1 ρ T.heap I
    rw [ea] at hM'
    obtain ⟨v', vm1, ⟨T', L', k', n'⟩, hw1, X', hS, hsz, ⟨L, hQ, q1, q2, q3⟩, stp⟩ := privateBackS X hx (y := y) hown (mvT hZ wl) (mvT hZ wm) (mvT hZ wsel) (Cond.privateMethod_at (mvP hZ wp (args := #[]))) (mvT hZ wc) hy
      (backOfS (Q := fun v' h' L => own_QH Z n0 N0 FT SF σ τ ρ H T.heap v H' v' h' L) (W := W) hM' hZ wc wi hfr hlo)
      (g := mkF m pc (own_ls ρ σ τ ls) (own_st ρ σ τ st)) rfl (by simpa using hl) (Steps.refl _) (a := ρ t) q5 q5' (argsL := as.map (own_val ρ σ τ)) (rest := own_st ρ σ τ (st.drop k)) (lenOf pd hlen) hst (by show 2 * 0 + _ ≤ _; rw [own_sum]; omega) hd (fun _ _ => ⟨rfl, rfl, Nat.le_trans h4 hRC, Nat.le_trans h5 hRS⟩)
    dsimp only [Pt.U, Pt.locs, Pt.cells, Pt.slots] at X' hS hsz hQ q1 q2 q3 stp
    subst q1 q2 q3
    exact ⟨v', _, T', L, X', hQ, hBW _ _ _ _ hb hS hsz, State.Warmed39.trans (t := s') hZ hS.1, by rw [show (s'.setVm T'.vm).vm = T'.vm from rfl, hS.1.alike.findClass]; exact hown, fun _ q => stp.trans q⟩
  · cases hr
/-- a constructor -/
theorem own_gSp_ok (hx : p.tables.exec = Jvm.exec) (hBW : ∀ s' k vm k', B s' k → s'.Since vm k' → k ≤ k' → B (s'.setVm vm) k') {index pc k W RC RS : Nat} {C : String} {y : MethodName} {bytes : ByteArray} {maxL : Nat} {rm : Room} (hyi : y.name = "<init>")
    (wl : (Cond.methodLink own index y).before a0 Z = true) (wm : (Cond.instanceMethod y).before a0 Z = true) (wi : (Cond.initialized y.cls).before a0 Z = true) (wc : (Cond.code y bytes maxL none).before a0 Z = true) (hy : y.cls ≠ "java/lang/invoke/MethodHandle" ∧ y.cls ≠ "java/lang/invoke/VarHandle")
    {ps : List FieldType} {rt : Option FieldType} (pd : parseMethodDescriptor y.desc = some ⟨ps, rt⟩) (hn : k = ps.length + 1) (hRC : RC ≤ R.cells) (hRS : RS ≤ R.slots) (hfr : rm.frames + 1 ≤ R.frames) (hlo : W + (maxL + 11) + rm.locals ≤ R.locals)
    {φ : List Value → own_H → Option (Option Value × own_H)} (hM : ∀ as H v H', φ as H = some (v, H') → ∀ ρ h, own_Inv Z n0 N0 FT SF σ τ ρ H h → own_MetW Z n0 N0 FT SF σ τ l y bytes maxL none rm [] ρ H h as v H') (hd : decode c.code pc = .ok (.invokespecial index, 3)) :
    own_HOk Z n0 N0 FT SF σ τ p l e R m args below meth c own B (own_gCall pc k W RC RS rm.cells rm.slots 1 C φ) := by
  intro ls st H cs sl r hl hr
  unfold own_gCall at hr
  simp only at hr
  split at hr
  · rename_i hg
    obtain ⟨h1, h2, h3, h4, h5, h6⟩ := hg
    have h6' : own_recv C H (st.take k).reverse = true := by rcases h6 with q | q | q <;> first | (cases q; done) | exact q.2
    obtain ⟨⟨v, H'⟩, q1, q2⟩ := Option.map_eq_some_iff.mp hr
    cases q2
    obtain ⟨t, as, ea⟩ : ∃ t as, (st.take k).reverse = .ref t :: as := by
      unfold own_recv at h6'
      split at h6'
      · rename_i t as ea; exact ⟨t, as, ea⟩
      · cases h6'
    refine own_HG_call h2 fun s' T locs ρ X hZ hown I hb => ?_
    have hlen0 : (st.take k).reverse.length = k := by simp [h1]
    rw [ea, List.length_cons] at hlen0
    have hlen : (as.map (own_val ρ σ τ)).length = ps.length := by simp; omega
    have hst : own_st ρ σ τ st = (as.map (own_val ρ σ τ)).reverse ++ .ref (ρ t) :: own_st ρ σ τ (st.drop k) := by
      rw [own_argsRest st k, ea]; simp [own_val]
    have hM' := hM _ _ _ _ q1 ρ T.heap I
    rw [ea] at hM'
    obtain ⟨v', vm1, ⟨T', L', k', n'⟩, hw1, X', hS, hsz, ⟨L, hQ, q1, q2, q3⟩, stp⟩ := X.specialBackS hx (y := y) hyi hown (mvT hZ wl) (mvT hZ wm) (mvT hZ wc) hy
      (backOfS (Q := fun v' h' L => own_QH Z n0 N0 FT SF σ τ ρ H T.heap v H' v' h' L) (W := W) hM' hZ wc wi hfr hlo)
      (g := mkF m pc (own_ls ρ σ τ ls) (own_st ρ σ τ st)) rfl (by simpa using hl) (Steps.refl _) (a := ρ t) (argsL := as.map (own_val ρ σ τ)) (rest := own_st ρ σ τ (st.drop k)) (lenOf pd hlen) hst (by show 2 * 0 + _ ≤ _; rw [own_sum]; omega) hd (fun _ _ => ⟨rfl, rfl, Nat.le_trans h4 hRC, Nat.le_trans h5 hRS⟩)
    dsimp only [Pt.U, Pt.locs, Pt.cells, Pt.slots] at X' hS hsz hQ q1 q2 q3 stp
    subst q1 q2 q3
    exact ⟨v', _, T', L, X', hQ, hBW _ _ _ _ hb hS hsz, State.Warmed39.trans (t := s') hZ hS.1, by rw [show (s'.setVm T'.vm).vm = T'.vm from rfl, hS.1.alike.findClass]; exact hown, fun _ q => stp.trans q⟩
  · cases hr
/-- ldc of a String: a reference of which nothing is known -/
def own_gT (pc RC RS n : Nat) : Nat × own_HHook := (pc, fun ls st H cs sl => if own_okNow ls st H = true ∧ cs + 2 ≤ RC ∧ sl + (n + 4) ≤ RS then some (pc + 2, .ref H.length :: st, H ++ [(none, "", [])], cs + 2, sl + (n + 4)) else none)
theorem own_gT_ok (hx : p.tables.exec = Jvm.exec) (wS : ∀ q ∈ SF, own_wf N0 q.2.2.2 = true) {s : State} {index pc RC RS n : Nat} {text : String} (w : (Cond.stringLink own index text).before a0 Z = true) (wA : ∀ a ∈ Bundle.stringAtoms, a.before a0 Z = true) (hn : 4 * text.toList.length ≤ n) (hbig : n ≤ 536870912) (hRC : RC ≤ R.cells) (hRS : RS ≤ R.slots) (hd : decode c.code pc = .ok (.ldc index, 2)) :
    own_HOk Z n0 N0 FT SF σ τ p l e R m args below meth c own (own_BW s) (own_gT pc RC RS n) := by
  intro ls st H cs sl r hl hr
  unfold own_gT at hr
  simp only at hr
  split at hr
  · rename_i hc; cases hr
    obtain ⟨hok, h4, h5⟩ := hc
    simp only [own_okNow, Bool.and_eq_true] at hok
    rintro s' T ρ ⟨locs, X, N, I, ⟨vm0, k0, rfl, hS, hk⟩, hZ, hown⟩
    obtain ⟨a, T', h', k1, X', e', E, hS', hk1, hZ', hown', st'⟩ := ldcS (s := s) (vm0 := vm0) X hx hZ hown w wA rfl hS hk (g := mkF m pc (own_ls ρ σ τ ls) (own_st ρ σ τ st)) rfl hd hn hbig (by omega) (by omega)
    have q : ∀ t, t < H.length → (fun t => if t = H.length then a else ρ t) t = ρ t := fun t ht => by simp [Nat.ne_of_lt ht]
    refine ⟨s.setVm T'.vm, T', fun t => if t = H.length then a else ρ t, ⟨locs, X', N, by rw [e']; exact own_Inv_new E wS hok.1.1 I (fun r _ => Or.inl rfl) rfl (fun q => absurd rfl q), ⟨_, k1, rfl, hS', by rw [e']; exact hk1⟩, hZ', hown'⟩, q, by simp, by rw [e']; exact E.1, fun target st => st' target ?_⟩
    have e1 : own_ls (fun t => if t = H.length then a else ρ t) σ τ ls = own_ls ρ σ τ ls := own_agreeS q hok.1.2
    have e3 : ∀ L : List Value, L.all (own_wf H.length) = true → own_st (fun t => if t = H.length then a else ρ t) σ τ (.ref H.length :: L) = .ref a :: own_st ρ σ τ L := fun L hL => by
      show Value.ref (if H.length = H.length then a else ρ H.length) :: L.map _ = _
      rw [if_pos rfl, own_agreeL q hL]
    rw [e1, e3 _ hok.2] at st
    exact st
  · cases hr
/-- A METHOD's CONTRACT by the machine's run -/
theorem own_hmetW {y : MethodName} {bytes : ByteArray} {maxL : Nat} {ret : Option FieldType} {rm : Room} (ws : List Jvm.Cond) (hname : plainName y.cls = true) {BT : Nat → Bool} (hBT : ∀ n, BT n = true → nar .byte (σ n) = σ n ∧ fits .byte (.int (σ n)) = true)
    {O : Jvm.ClassFile.Cond → Nat → Int32 → Option Bool} (hO : ∀ cd n z b, O cd n z = some b → if_icmp.holds cd (σ n) z = b) {A : Instr → List Value → Option (List Value)} (hA : own_AOk σ τ A) {hooks : List (Nat × own_HHook)} {n : Nat}
    (hok : ∀ (p : Program) (e : Env) (s : State) (m : MethodId) (args : Array Value) (below : List Frame) (meth : Method) (c : Code), p.tables.exec = Jvm.exec → c.code = bytes → meth.name = y.name → ∀ q ∈ hooks, own_HOk Z n0 N0 FT SF σ τ p l e rm m args below meth c y.cls (own_BW s) q)
    (as : List Value) (H : own_H) (v : Option Value) (H' : own_H) (cs sl : Nat) (hmax : (own_entry maxL as).length = maxL) (hrun : own_hrun N0 BT O A bytes hooks ret n 0 (own_entry maxL as) [] H 0 0 = some (v, H', cs, sl)) (hcs : cs ≤ rm.cells) (hsl : sl ≤ rm.slots) (ρ : Nat → Addr) (h : Heap) (I : own_Inv Z n0 N0 FT SF σ τ ρ H h) :
    own_MetW Z n0 N0 FT SF σ τ l y bytes maxL ret rm ws ρ H h as v H' := by
  refine MetFree.of_bodySF (plainFor_of_name hname) hisR ?_
  intro p e s m args below meth c s₁ Bd hml0 hP hK
  obtain ⟨rfl, hZ, hh⟩ := hP
  have hx := Bd.exec
  have hown : s.vm.findClass y.cls = some m.cls := findClass_of_methodNamed Bd.named
  have X0 : Stand p l e rm s m (as.map (own_val ρ σ τ)).toArray below meth c s₁ [] 0 0 := Stand.of_body Bd
  have e0 : s₁.heap = h := by rw [← hh, Bd.state]; rfl
  have hPP : own_P Z n0 N0 FT SF σ τ p l e rm m (as.map (own_val ρ σ τ)).toArray below meth c y.cls (own_BW s) s s₁ ρ H 0 0 := ⟨[], X0, Fr.nil n0, by rw [e0]; exact I, ⟨s.vm, 0, rfl, (State.WarmedH.refl s).since 0, Nat.zero_le _⟩, hZ, hown⟩
  obtain ⟨s'', T, ρ', ⟨locs, X, N, I', ⟨vm0, k0, rfl, hS, hk⟩, -, -⟩, ag, hlen, hsz, hv, k⟩ := own_hrun_ok hx Bd.bytes Bd.returns hBT hO hA (hok p e s m _ below meth c hx Bd.bytes (name_of_methodNamed Bd.named Bd.method).1) n 0 (own_entry maxL as) [] H 0 0 v H' cs sl hrun (by rw [hmax, hml0]) s s₁ ρ hPP
  obtain ⟨fs, hr, hrun', hended, hW⟩ := X.leaveW hS hk (v := v.map (own_val ρ' σ τ)) (fun q => by rw [Bd.returns] at q; rw [hv q]; rfl)
  refine ⟨_, _, castTop own_entry_ok (k fs hr), hrun', hended, _, _, rfl, ⟨N, ρ', ag, hlen, rfl, I', by rw [← e0]; exact hsz⟩, hW.1, hW.2.1, hW.2.2.1, hW.2.2.2.mono hcs hsl⟩
theorem own_hmetN {y : MethodName} {bytes : ByteArray} {maxL : Nat} {ret : Option FieldType} {rm : Room} (ws : List Jvm.Cond) (hname : plainName y.cls = true) {BT : Nat → Bool} (hBT : ∀ n, BT n = true → nar .byte (σ n) = σ n ∧ fits .byte (.int (σ n)) = true)
    {O : Jvm.ClassFile.Cond → Nat → Int32 → Option Bool} (hO : ∀ cd n z b, O cd n z = some b → if_icmp.holds cd (σ n) z = b) {A : Instr → List Value → Option (List Value)} (hA : own_AOk σ τ A) {hooks : List (Nat × own_HHook)} {n : Nat}
    (hok : ∀ (p : Program) (e : Env) (s : State) (m : MethodId) (args : Array Value) (below : List Frame) (meth : Method) (c : Code), p.tables.exec = Jvm.exec → c.code = bytes → meth.name = y.name → ∀ q ∈ hooks, own_HOk Z n0 N0 FT SF σ τ p l e rm m args below meth c y.cls (own_BN s) q)
    (as : List Value) (H : own_H) (v : Option Value) (H' : own_H) (cs sl : Nat) (hmax : (own_entry maxL as).length = maxL) (hrun : own_hrun N0 BT O A bytes hooks ret n 0 (own_entry maxL as) [] H 0 0 = some (v, H', cs, sl)) (hcs : cs ≤ rm.cells) (hsl : sl ≤ rm.slots) (ρ : Nat → Addr) (h : Heap) (I : own_Inv Z n0 N0 FT SF σ τ ρ H h) :
    own_MetN Z n0 N0 FT SF σ τ l y bytes maxL ret rm ws ρ H h as v H' := by
  refine MetFree.of_bodySF (plainFor_of_name hname) hisR ?_
  intro p e s m args below meth c s₁ Bd hml0 hP hK
  obtain ⟨rfl, hZ, hh⟩ := hP
  have hx := Bd.exec
  have hown : s.vm.findClass y.cls = some m.cls := findClass_of_methodNamed Bd.named
  have X0 : Stand p l e rm s m (as.map (own_val ρ σ τ)).toArray below meth c s₁ [] 0 0 := Stand.of_body Bd
  have e0 : s₁.heap = h := by rw [← hh, Bd.state]; rfl
  have hPP : own_P Z n0 N0 FT SF σ τ p l e rm m (as.map (own_val ρ σ τ)).toArray below meth c y.cls (own_BN s) s s₁ ρ H 0 0 := ⟨[], X0, Fr.nil n0, by rw [e0]; exact I, rfl, hZ, hown⟩
  obtain ⟨s'', T, ρ', ⟨locs, X, N, I', rfl, -, -⟩, ag, hlen, hsz, hv, k⟩ := own_hrun_ok hx Bd.bytes Bd.returns hBT hO hA (hok p e s m _ below meth c hx Bd.bytes (name_of_methodNamed Bd.named Bd.method).1) n 0 (own_entry maxL as) [] H 0 0 v H' cs sl hrun (by rw [hmax, hml0]) s s₁ ρ hPP
  obtain ⟨fs, hr, hrun', hended, hW, hsame⟩ := X.leave (v := v.map (own_val ρ' σ τ)) (fun q => by rw [Bd.returns] at q; rw [hv q]; rfl)
  exact ⟨_, _, castTop own_entry_ok (k fs hr), hrun', hended, _, _, rfl, ⟨N, ρ', ag, hlen, rfl, I', by rw [← e0]; exact hsz⟩, ⟨_, rfl⟩, hW, hsame.mono hcs hsl⟩
end OwnHeapCalls
section OwnAlgebra
variable {σ : Nat → Int32} {τ : Nat → Int64}
/-- rules for operations on unknowns: the instruction, the top of the stack before and behind it -/
def own_alg : List (Instr × List Value × List Value) → Instr → List Value → Option (List Value)
  | [], _, _ => none
  | q :: r, i, st => if q.1 = i ∧ st.take q.2.1.length = q.2.1 then some (q.2.2 ++ st.drop q.2.1.length) else own_alg r i st
def own_Rule (σ : Nat → Int32) (τ : Nat → Int64) (q : Instr × List Value × List Value) : Prop :=
  ∀ (p : Program) (l : Launch) (e : Env) (R : Room) (s : State) (m : MethodId) (args : Array Value) (below : List Frame) (meth : Method) (c : Code) (T : State) (locs : List Loc) (cs sl : Nat) (ρ : Nat → Addr) (pc : Nat) (Ls : Array Slot) (rest : List Value) (target : State), Stand p l e R s m args below meth c T locs cs sl → p.tables.exec = Jvm.exec → decode c.code pc = .ok (q.1, 1) →
    Steps p.tables e below (T.setTop (mkF m (pc + 1) Ls (own_st ρ σ τ q.2.2 ++ rest))) target → Steps p.tables e below (T.setTop (mkF m pc Ls (own_st ρ σ τ q.2.1 ++ rest))) target
theorem own_alg_ok : ∀ {rules : List (Instr × List Value × List Value)}, (∀ q ∈ rules, own_Rule σ τ q) → own_AOk σ τ (own_alg rules)
  | [], _ => fun _ _ _ h => by cases h
  | q :: r, hq => fun i st st' h => by
    unfold own_alg at h
    split at h
    · rename_i hc
      obtain ⟨rfl, hp⟩ := hc
      cases h
      intro p l e R s m args below meth c T locs cs sl ρ pc Ls target X hx hd k
      have e1 : own_st ρ σ τ st = own_st ρ σ τ q.2.1 ++ own_st ρ σ τ (st.drop q.2.1.length) := by
        rw [← List.map_append]; conv => lhs; rw [← List.take_append_drop q.2.1.length st, hp]
      have e2 : own_st ρ σ τ (q.2.2 ++ st.drop q.2.1.length) = own_st ρ σ τ q.2.2 ++ own_st ρ σ τ (st.drop q.2.1.length) := List.map_append
      rw [e2] at k
      rw [e1]
      exact hq q List.mem_cons_self p l e R s m args below meth c T locs cs sl ρ pc Ls _ target X hx hd k
    · exact own_alg_ok (fun q' h' => hq q' (List.mem_cons_of_mem _ h')) i st st' h
def own_bop (i : Instr) (x y : Int32) : Option Int32 :=
  match i with
  | .iadd => some (x + y)
  | .isub => some (x - y)
  | .imul => some (x * y)
  | .iand => some (x &&& y)
  | .ior => some (x ||| y)
  | .ixor => some (x ^^^ y)
  | .ishl => some (x <<< (y &&& 31))
  | .ishr => some (x >>> (y &&& 31))
  | .iushr => some (XT.ushr x y)
  | .irem => if y = 0 then none else some (x % y)
  | _ => none
theorem own_bop_ok {i : Instr} {x y z : Int32} (h : own_bop i x y = some z) {p : Program} {l : Launch} {e : Env} {R : Room} {s : State} {m : MethodId} {args : Array Value} {below : List Frame} {meth : Method} {c : Code} {T : State} {locs : List Loc} {cs sl pc : Nat} {Ls : Array Slot} {rest : List Value} {target : State} (X : Stand p l e R s m args below meth c T locs cs sl) (hx : p.tables.exec = Jvm.exec) (hd : decode c.code pc = .ok (i, 1))
    (k : Steps p.tables e below (T.setTop (mkF m (pc + 1) Ls (.int z :: rest))) target) : Steps p.tables e below (T.setTop (mkF m pc Ls (.int y :: .int x :: rest))) target := by
  unfold own_bop at h
  split at h
  · cases h; exact XS.iadd X.here hx rfl hd rfl k
  · cases h; exact XS.isub X.here hx rfl hd rfl k
  · cases h; exact XS.imul X.here hx rfl hd rfl k
  · cases h; exact XS.iand X.here hx rfl hd rfl k
  · cases h; exact XT.ior X.here hx rfl hd rfl k
  · cases h; exact XT.ixor X.here hx rfl hd rfl k
  · cases h; exact XT.ishl X.here hx rfl hd rfl k
  · cases h; exact XT.ishr X.here hx rfl hd rfl k
  · cases h; exact XT.iushr X.here hx rfl hd rfl k
  · split at h
    · cases h
    · rename_i hy; cases h; exact iremM X hx rfl hd rfl hy k
  · cases h
theorem own_rBin {i : Instr} {a b z : Value} {x y w : Int32} (ha : ∀ ρ, own_val ρ σ τ a = .int x) (hb : ∀ ρ, own_val ρ σ τ b = .int y) (hz : ∀ ρ, own_val ρ σ τ z = .int w) (h : own_bop i x y = some w) : own_Rule σ τ (i, [b, a], [z]) := by
  intro p l e R s m args below meth c T locs cs sl ρ pc Ls rest target X hx hd k
  have e1 : own_st ρ σ τ [b, a] ++ rest = .int y :: .int x :: rest := by simp [own_st, ha, hb]
  have e2 : own_st ρ σ τ [z] ++ rest = .int w :: rest := by simp [own_st, hz]
  rw [e2] at k
  rw [e1]
  exact own_bop_ok h X hx hd k
theorem own_rI2b {a z : Value} {x : Int32} (ha : ∀ ρ, own_val ρ σ τ a = .int x) (hz : ∀ ρ, own_val ρ σ τ z = .int x.toInt8.toInt32) : own_Rule σ τ (.i2b, [a], [z]) := by
  intro p l e R s m args below meth c T locs cs sl ρ pc Ls rest target X hx hd k
  have e1 : own_st ρ σ τ [a] ++ rest = .int x :: rest := by simp [own_st, ha]
  have e2 : own_st ρ σ τ [z] ++ rest = .int x.toInt8.toInt32 :: rest := by simp [own_st, hz]
  rw [e2] at k
  rw [e1]
  exact XT.i2b X.here hx rfl hd rfl k
end OwnAlgebra
theorem own_pn0 : plainName "java/lang/Record" = true := by first | (simp [plainName, overriddenIn]; done) | decide +kernel
theorem own_pn1 : plainName "java/util/Map" = true := by first | (simp [plainName, overriddenIn]; done) | decide +kernel
theorem own_pn2 : plainName "com/example/ackorn/ackorn/protocol/Command" = true := by first | (simp [plainName, overriddenIn]; done) | decide +kernel
theorem own_pn3 : plainName "com/example/ackorn/ackorn/protocol/CommandIsOnewayPinLaw" = true := by first | (simp [plainName, overriddenIn]; done) | decide +kernel
theorem own_pd0 : parseMethodDescriptor "()Ljava/util/Map;" = some ⟨[], some (.object "java/util/Map")⟩ := by decide +kernel
theorem own_pd1 : parseMethodDescriptor "()V" = some ⟨[], none⟩ := by decide +kernel
theorem own_pd2 : parseMethodDescriptor "()Z" = some ⟨[], some (.boolean)⟩ := by decide +kernel
theorem own_pd3 : parseMethodDescriptor "(IIIII)Z" = some ⟨[.int, .int, .int, .int, .int], some (.boolean)⟩ := by decide +kernel
theorem own_pd4 : parseMethodDescriptor "(IIILjava/lang/String;Ljava/util/Map;[B)V" = some ⟨[.int, .int, .int, .object "java/lang/String", .object "java/util/Map", .array (.byte)], none⟩ := by decide +kernel
theorem own_pd5 : parseMethodDescriptor "(IIILjava/lang/String;Ljava/util/Map;[BLjava/lang/String;IZ)V" = some ⟨[.int, .int, .int, .object "java/lang/String", .object "java/util/Map", .array (.byte), .object "java/lang/String", .int, .boolean], none⟩ := by decide +kernel
theorem own_pd6 : parseMethodDescriptor "(ILjava/lang/String;)Lcom/example/ackorn/ackorn/protocol/Command;" = some ⟨[.int, .object "java/lang/String"], some (.object "com/example/ackorn/ackorn/protocol/Command")⟩ := by decide +kernel
theorem own_pd7 : parseMethodDescriptor "(ILjava/lang/String;Ljava/util/Map;[B)Lcom/example/ackorn/ackorn/protocol/Command;" = some ⟨[.int, .object "java/lang/String", .object "java/util/Map", .array (.byte)], some (.object "com/example/ackorn/ackorn/protocol/Command")⟩ := by decide +kernel
/-- a field's class, name and type, as the sheet's k-th word says them -/
def own_fw (k : Nat) : String × String × String := match tables_1[k]? with
  | some (.fieldLink _ _ c n d) => (c, n, d)
  | _ => ("", "", "")
def own_FT : List (String × String × String) := [own_fw 22, own_fw 24, own_fw 26, own_fw 28, own_fw 30, own_fw 32, own_fw 34, own_fw 36, own_fw 38]
def own_SF : List (String × String × String × Value) := [("com/example/ackorn/ackorn/protocol/Command", "NO_BODY", "[B", .ref 0), ("java/util/ImmutableCollections", "EMPTY_MAP", "Ljava/util/ImmutableCollections$MapN;", .ref 1)]
theorem own_wS : ∀ q ∈ own_SF, own_wf 2 q.2.2.2 = true := by decide
def own_H0 : own_H := [(none, "", []), (none, "", [])]
theorem own_arrRef {args : Array Value} {Z : State} {t : Term} {ty : FieldType} (h : (Cond.arrayOf t ty).before args Z = true) : ∃ a, t.eval args Z none [] Z = some (.ref a) := by
  simp only [Cond.before, Cond.holds, Cond.value] at h
  split at h
  · simp at h
  · cases hw : t.eval args Z none [] Z with
    | none => simp [hw] at h
    | some w => cases w <;> simp [hw] at h ⊢
def own_A (tb u w w' : Int32) : Instr → List Value → Option (List Value) := own_alg [(.iand, [.int 1, .retAddr 4], [.int tb]), (.ixor, [.int 2, .retAddr 2], [.retAddr 5]), (.iushr, [.int 1, .retAddr 2], [.retAddr 6]), (.iand, [.int 1, .retAddr 6], [.int u]), (.iand, [.int 2, .retAddr 2], [.int w]), (.iand, [.int 2, .retAddr 5], [.int w'])]
def own_Or (tb u w w' : Int32) (_ : Jvm.ClassFile.Cond) (_ : Nat) (_ : Int32) : Option Bool := none
def own_BT (tb u w w' : Int32) (_ : Nat) : Bool := false
theorem own_laid {Z : State} {a0 : Array Value} (hw : ∀ d ∈ tables_1, d.before a0 Z = true) : ∀ (i : Nat) (f : String × String × String), own_FT[i]? = some f → Laid Z a0 "com/example/ackorn/ackorn/protocol/Command" f.1 f.2.1 f.2.2 ∧ ∃ ty, parseFieldDescriptor f.2.2 = some ty := by
  intro i f hf
  match i, hf with
  | 0, hf => cases hf; exact ⟨Or.inr (hw _ (List.mem_of_getElem? (i := 23) rfl)), .int, by decide +kernel⟩
  | 1, hf => cases hf; exact ⟨Or.inr (hw _ (List.mem_of_getElem? (i := 25) rfl)), .int, by decide +kernel⟩
  | 2, hf => cases hf; exact ⟨Or.inr (hw _ (List.mem_of_getElem? (i := 27) rfl)), .int, by decide +kernel⟩
  | 3, hf => cases hf; exact ⟨Or.inr (hw _ (List.mem_of_getElem? (i := 29) rfl)), .object "java/lang/String", by decide +kernel⟩
  | 4, hf => cases hf; exact ⟨Or.inr (hw _ (List.mem_of_getElem? (i := 31) rfl)), .object "java/util/Map", by decide +kernel⟩
  | 5, hf => cases hf; exact ⟨Or.inr (hw _ (List.mem_of_getElem? (i := 33) rfl)), .array (.byte), by decide +kernel⟩
  | 6, hf => cases hf; exact ⟨Or.inr (hw _ (List.mem_of_getElem? (i := 35) rfl)), .object "java/lang/String", by decide +kernel⟩
  | 7, hf => cases hf; exact ⟨Or.inr (hw _ (List.mem_of_getElem? (i := 37) rfl)), .int, by decide +kernel⟩
  | 8, hf => cases hf; exact ⟨Or.inr (hw _ (List.mem_of_getElem? (i := 39) rfl)), .boolean, by decide +kernel⟩
  | n + 9, hf => exact absurd hf (by simp [own_FT])
theorem own_names : ∀ i, i < 9 → ∀ j, j < 9 → i ≠ j → (own_FT.getD i default).2.1 ≠ (own_FT.getD j default).2.1 := by decide +kernel
theorem own_cf {Z : State} {a0 : Array Value} (hw : ∀ d ∈ tables_1, d.before a0 Z = true) : own_CF Z a0 own_FT "com/example/ackorn/ackorn/protocol/Command" := ⟨own_laid hw, fun i j f g hi hj ne => by
  have h1 := (List.getElem?_eq_some_iff.mp hi).1
  have h2 := (List.getElem?_eq_some_iff.mp hj).1
  have q := own_names i h1 j h2 ne
  rw [List.getD, hi, List.getD, hj] at q
  exact q⟩
section OwnLaw
variable {Z : State} {n0 : Nat} {a0 : Array Value} {σ : Nat → Int32} {τ : Nat → Int64} {l : Launch}
theorem own_new (hw : ∀ d ∈ tables_1, d.before a0 Z = true) : ∀ (i : Nat) (v : Value) (f : String × String × String), ([.int 0, .int 0, .int 0, .null, .null, .null, .null, .int 0, .int 0] : List Value)[i]? = some v → own_FT[i]? = some f → own_known v = true → Laid Z a0 "com/example/ackorn/ackorn/protocol/Command" f.1 f.2.1 f.2.2 ∧ ∃ ty, parseFieldDescriptor f.2.2 = some ty ∧ v = defaultValue ty ∧ own_val (fun _ => 0) σ τ v = v := by
  intro i v f hv hf hk
  refine ⟨(own_laid hw i f hf).1, ?_⟩
  match i, hv, hf with
  | 0, hv, hf => cases hv; cases hf; exact ⟨.int, by decide +kernel, rfl, rfl⟩
  | 1, hv, hf => cases hv; cases hf; exact ⟨.int, by decide +kernel, rfl, rfl⟩
  | 2, hv, hf => cases hv; cases hf; exact ⟨.int, by decide +kernel, rfl, rfl⟩
  | 3, hv, hf => cases hv; cases hf; exact ⟨.object "java/lang/String", by decide +kernel, rfl, rfl⟩
  | 4, hv, hf => cases hv; cases hf; exact ⟨.object "java/util/Map", by decide +kernel, rfl, rfl⟩
  | 5, hv, hf => cases hv; cases hf; exact ⟨.array (.byte), by decide +kernel, rfl, rfl⟩
  | 6, hv, hf => cases hv; cases hf; exact ⟨.object "java/lang/String", by decide +kernel, rfl, rfl⟩
  | 7, hv, hf => cases hv; cases hf; exact ⟨.int, by decide +kernel, rfl, rfl⟩
  | 8, hv, hf => cases hv; cases hf; exact ⟨.boolean, by decide +kernel, rfl, rfl⟩
  | n + 9, hv, hf => exact absurd hf (by simp [own_FT])
theorem own_atoms (hw : ∀ d ∈ tables_1, d.before a0 Z = true) : ∀ a ∈ Bundle.stringAtoms, a.before a0 Z = true := by
  intro a ha
  simp only [Bundle.stringAtoms, List.mem_cons, List.not_mem_nil, or_false] at ha
  rcases ha with rfl | rfl | rfl | rfl | rfl | rfl | rfl
  all_goals first | exact (hw _ (List.mem_of_getElem? (i := 55) rfl)) | exact (hw _ (List.mem_of_getElem? (i := 56) rfl)) | exact (hw _ (List.mem_of_getElem? (i := 57) rfl)) | exact (hw _ (List.mem_of_getElem? (i := 58) rfl)) | exact (hw _ (List.mem_of_getElem? (i := 59) rfl)) | exact (hw _ (List.mem_of_getElem? (i := 60) rfl)) | exact (hw _ (List.mem_of_getElem? (i := 61) rfl))
def own_hk1 (tb u w w' : Int32) : List (Nat × own_HHook) := [own_gI 1 6]
def own_run1 (tb u w w' : Int32) (as : List Value) (H : own_H) : Option (Option Value × own_H) := if (own_entry 1 as).length = 1 then match own_hrun 2 (own_BT tb u w w') (own_Or tb u w w') (own_A tb u w w') jdk_30_method_1_code (own_hk1 tb u w w') (Option.none : Option Jvm.ClassFile.FieldType) 26 0 (own_entry 1 as) [] H 0 0 with
  | some q => if q.2.2.1 ≤ 0 ∧ q.2.2.2 ≤ 0 then some (q.1, q.2.1) else none
  | none => none
  else none
set_option maxRecDepth 65536 in
theorem own_met1 (hw : ∀ d ∈ tables_1, d.before a0 Z = true) (tb u w w' : Int32) (hA : own_AOk σ τ (own_A tb u w w')) (hO : ∀ cd n z b, own_Or tb u w w' cd n z = some b → if_icmp.holds cd (σ n) z = b) (hBT : ∀ n, own_BT tb u w w' n = true → nar .byte (σ n) = σ n ∧ fits .byte (.int (σ n)) = true) (as : List Value) (H : own_H) (v : Option Value) (H' : own_H) (hr : own_run1 tb u w w' as H = some (v, H')) (ρ : Nat → Addr) (h : Heap) (I : own_Inv Z n0 2 own_FT own_SF σ τ ρ H h) :
    own_MetW Z n0 2 own_FT own_SF σ τ l (⟨"java/lang/Record", "<init>", "()V"⟩ : MethodName) jdk_30_method_1_code 1 (Option.none : Option Jvm.ClassFile.FieldType) ({ frames := 1, cells := 0, slots := 0, locals := 18 } : Room) [] ρ H h as v H' := by
  unfold own_run1 at hr
  split at hr
  · rename_i hm
    split at hr
    · rename_i q hq
      split at hr
      · rename_i hc; cases hr
        refine own_hmetW (y := (⟨"java/lang/Record", "<init>", "()V"⟩ : MethodName)) (bytes := jdk_30_method_1_code) (maxL := 1) (ret := (Option.none : Option Jvm.ClassFile.FieldType)) (rm := ({ frames := 1, cells := 0, slots := 0, locals := 18 } : Room)) (hooks := own_hk1 tb u w w') (n := 26) [] own_pn0 hBT hO hA (fun p e s m args below meth c hx hby hnm => ?_) as H _ _ _ _ hm hq hc.1 hc.2 ρ h I
        intro q hq
        simp only [own_hk1, List.mem_cons, List.not_mem_nil, or_false] at hq
        rcases hq with rfl
        · exact own_gI_ok hx (hw _ (List.mem_of_getElem? (i := 11) rfl)) (hw _ (List.mem_of_getElem? (i := 12) rfl)) (hw _ (List.mem_of_getElem? (i := 13) rfl)) (by decide) (by decide) (hb hby (by decide +kernel))
      · cases hr
    · cases hr
  · cases hr
def own_hk2 (tb u w w' : Int32) : List (Nat × own_HHook) := [own_gS 0 (.ref 1)]
def own_run2 (tb u w w' : Int32) (as : List Value) (H : own_H) : Option (Option Value × own_H) := if (own_entry 0 as).length = 0 then match own_hrun 2 (own_BT tb u w w') (own_Or tb u w w') (own_A tb u w w') jdk_72_method_26_code (own_hk2 tb u w w') (Option.some (Jvm.ClassFile.FieldType.object "java/util/Map")) 24 0 (own_entry 0 as) [] H 0 0 with
  | some q => if q.2.2.1 ≤ 0 ∧ q.2.2.2 ≤ 0 then some (q.1, q.2.1) else none
  | none => none
  else none
set_option maxRecDepth 65536 in
theorem own_met2 (hw : ∀ d ∈ tables_1, d.before a0 Z = true) (tb u w w' : Int32) (hA : own_AOk σ τ (own_A tb u w w')) (hO : ∀ cd n z b, own_Or tb u w w' cd n z = some b → if_icmp.holds cd (σ n) z = b) (hBT : ∀ n, own_BT tb u w w' n = true → nar .byte (σ n) = σ n ∧ fits .byte (.int (σ n)) = true) (as : List Value) (H : own_H) (v : Option Value) (H' : own_H) (hr : own_run2 tb u w w' as H = some (v, H')) (ρ : Nat → Addr) (h : Heap) (I : own_Inv Z n0 2 own_FT own_SF σ τ ρ H h) :
    own_MetW Z n0 2 own_FT own_SF σ τ l (⟨"java/util/Map", "of", "()Ljava/util/Map;"⟩ : MethodName) jdk_72_method_26_code 0 (Option.some (Jvm.ClassFile.FieldType.object "java/util/Map")) ({ frames := 0, cells := 0, slots := 0, locals := 0 } : Room) [] ρ H h as v H' := by
  unfold own_run2 at hr
  split at hr
  · rename_i hm
    split at hr
    · rename_i q hq
      split at hr
      · rename_i hc; cases hr
        refine own_hmetW (y := (⟨"java/util/Map", "of", "()Ljava/util/Map;"⟩ : MethodName)) (bytes := jdk_72_method_26_code) (maxL := 0) (ret := (Option.some (Jvm.ClassFile.FieldType.object "java/util/Map"))) (rm := ({ frames := 0, cells := 0, slots := 0, locals := 0 } : Room)) (hooks := own_hk2 tb u w w') (n := 24) [] own_pn1 hBT hO hA (fun p e s m args below meth c hx hby hnm => ?_) as H _ _ _ _ hm hq hc.1 hc.2 ρ h I
        intro q hq
        simp only [own_hk2, List.mem_cons, List.not_mem_nil, or_false] at hq
        rcases hq with rfl
        · exact own_gS_ok hx (hw _ (List.mem_of_getElem? (i := 18) rfl)) (List.mem_of_getElem? (i := 1) rfl) (hb hby (by decide +kernel))
      · cases hr
    · cases hr
  · cases hr
def own_hk3 (tb u w w' : Int32) : List (Nat × own_HHook) := [own_gCall 1 1 6 0 0 0 0 1 "com/example/ackorn/ackorn/protocol/Command" (own_run1 tb u w w'), own_gCall 9 0 6 0 0 0 0 0 "" (own_run2 tb u w w'), own_gS 24 (.ref 0), own_gP 36 0 2 "com/example/ackorn/ackorn/protocol/Command" (.int), own_gP 41 1 2 "com/example/ackorn/ackorn/protocol/Command" (.int), own_gP 46 2 2 "com/example/ackorn/ackorn/protocol/Command" (.int), own_gP 52 3 2 "com/example/ackorn/ackorn/protocol/Command" (.object "java/lang/String"), own_gP 58 4 2 "com/example/ackorn/ackorn/protocol/Command" (.object "java/util/Map"), own_gP 64 5 2 "com/example/ackorn/ackorn/protocol/Command" (.array (.byte)), own_gP 70 6 2 "com/example/ackorn/ackorn/protocol/Command" (.object "java/lang/String"), own_gP 76 7 2 "com/example/ackorn/ackorn/protocol/Command" (.int), own_gP 82 8 2 "com/example/ackorn/ackorn/protocol/Command" (.boolean)]
def own_run3 (tb u w w' : Int32) (as : List Value) (H : own_H) : Option (Option Value × own_H) := if (own_entry 10 as).length = 10 then match own_hrun 2 (own_BT tb u w w') (own_Or tb u w w') (own_A tb u w w') prog_26_method_1_code (own_hk3 tb u w w') (Option.none : Option Jvm.ClassFile.FieldType) 104 0 (own_entry 10 as) [] H 0 0 with
  | some q => if q.2.2.1 ≤ 0 ∧ q.2.2.2 ≤ 0 then some (q.1, q.2.1) else none
  | none => none
  else none
set_option maxRecDepth 65536 in
theorem own_met3 (hw : ∀ d ∈ tables_1, d.before a0 Z = true) (tb u w w' : Int32) (hA : own_AOk σ τ (own_A tb u w w')) (hO : ∀ cd n z b, own_Or tb u w w' cd n z = some b → if_icmp.holds cd (σ n) z = b) (hBT : ∀ n, own_BT tb u w w' n = true → nar .byte (σ n) = σ n ∧ fits .byte (.int (σ n)) = true) (as : List Value) (H : own_H) (v : Option Value) (H' : own_H) (hr : own_run3 tb u w w' as H = some (v, H')) (ρ : Nat → Addr) (h : Heap) (I : own_Inv Z n0 2 own_FT own_SF σ τ ρ H h) :
    own_MetW Z n0 2 own_FT own_SF σ τ l (⟨"com/example/ackorn/ackorn/protocol/Command", "<init>", "(IIILjava/lang/String;Ljava/util/Map;[BLjava/lang/String;IZ)V"⟩ : MethodName) prog_26_method_1_code 10 (Option.none : Option Jvm.ClassFile.FieldType) ({ frames := 2, cells := 0, slots := 0, locals := 36 } : Room) [] ρ H h as v H' := by
  unfold own_run3 at hr
  split at hr
  · rename_i hm
    split at hr
    · rename_i q hq
      split at hr
      · rename_i hc; cases hr
        refine own_hmetW (y := (⟨"com/example/ackorn/ackorn/protocol/Command", "<init>", "(IIILjava/lang/String;Ljava/util/Map;[BLjava/lang/String;IZ)V"⟩ : MethodName)) (bytes := prog_26_method_1_code) (maxL := 10) (ret := (Option.none : Option Jvm.ClassFile.FieldType)) (rm := ({ frames := 2, cells := 0, slots := 0, locals := 36 } : Room)) (hooks := own_hk3 tb u w w') (n := 104) [] own_pn2 hBT hO hA (fun p e s m args below meth c hx hby hnm => ?_) as H _ _ _ _ hm hq hc.1 hc.2 ρ h I
        intro q hq
        simp only [own_hk3, List.mem_cons, List.not_mem_nil, or_false] at hq
        rcases hq with rfl | rfl | rfl | rfl | rfl | rfl | rfl | rfl | rfl | rfl | rfl | rfl
        · exact own_gSp_ok (rm := ({ frames := 1, cells := 0, slots := 0, locals := 18 } : Room)) hx own_BW_step (y := (⟨"java/lang/Record", "<init>", "()V"⟩ : MethodName)) rfl (hw _ (List.mem_of_getElem? (i := 6) rfl)) (hw _ (List.mem_of_getElem? (i := 7) rfl)) (hw _ (List.mem_of_getElem? (i := 9) rfl)) (hw _ (List.mem_of_getElem? (i := 10) rfl)) (by decide) own_pd1 rfl (by decide) (by decide) (by decide) (by decide) (fun as H v H' q ρ h I => own_met1 hw tb u w w' hA hO hBT as H v H' q ρ h I) (hb hby (by decide +kernel))
        · exact own_gC_ok (rm := ({ frames := 0, cells := 0, slots := 0, locals := 0 } : Room)) hx own_BW_step (y := (⟨"java/util/Map", "of", "()Ljava/util/Map;"⟩ : MethodName)) (hw _ (List.mem_of_getElem? (i := 14) rfl)) (hw _ (List.mem_of_getElem? (i := 15) rfl)) (hw _ (List.mem_of_getElem? (i := 16) rfl)) (hw _ (List.mem_of_getElem? (i := 17) rfl)) (by decide) own_pd0 rfl (by decide) (by decide) (by decide) (by decide) (fun as H v H' q ρ h I => own_met2 hw tb u w w' hA hO hBT as H v H' q ρ h I) (hb hby (by decide +kernel))
        · exact own_gS_ok hx (hw _ (List.mem_of_getElem? (i := 20) rfl)) (List.mem_of_getElem? (i := 0) rfl) (hb hby (by decide +kernel))
        · exact own_gP_ok hx (f := own_fw 22) (hw _ (List.mem_of_getElem? (i := 22) rfl)) rfl (own_cf hw) (Or.inr ⟨hw _ (List.mem_of_getElem? (i := 23) rfl), rfl, hnm⟩) (hw _ (List.mem_of_getElem? (i := 1) rfl)) (by decide +kernel) (hb hby (by decide +kernel))
        · exact own_gP_ok hx (f := own_fw 24) (hw _ (List.mem_of_getElem? (i := 24) rfl)) rfl (own_cf hw) (Or.inr ⟨hw _ (List.mem_of_getElem? (i := 25) rfl), rfl, hnm⟩) (hw _ (List.mem_of_getElem? (i := 1) rfl)) (by decide +kernel) (hb hby (by decide +kernel))
        · exact own_gP_ok hx (f := own_fw 26) (hw _ (List.mem_of_getElem? (i := 26) rfl)) rfl (own_cf hw) (Or.inr ⟨hw _ (List.mem_of_getElem? (i := 27) rfl), rfl, hnm⟩) (hw _ (List.mem_of_getElem? (i := 1) rfl)) (by decide +kernel) (hb hby (by decide +kernel))
        · exact own_gP_ok hx (f := own_fw 28) (hw _ (List.mem_of_getElem? (i := 28) rfl)) rfl (own_cf hw) (Or.inr ⟨hw _ (List.mem_of_getElem? (i := 29) rfl), rfl, hnm⟩) (hw _ (List.mem_of_getElem? (i := 1) rfl)) (by decide +kernel) (hb hby (by decide +kernel))
        · exact own_gP_ok hx (f := own_fw 30) (hw _ (List.mem_of_getElem? (i := 30) rfl)) rfl (own_cf hw) (Or.inr ⟨hw _ (List.mem_of_getElem? (i := 31) rfl), rfl, hnm⟩) (hw _ (List.mem_of_getElem? (i := 1) rfl)) (by decide +kernel) (hb hby (by decide +kernel))
        · exact own_gP_ok hx (f := own_fw 32) (hw _ (List.mem_of_getElem? (i := 32) rfl)) rfl (own_cf hw) (Or.inr ⟨hw _ (List.mem_of_getElem? (i := 33) rfl), rfl, hnm⟩) (hw _ (List.mem_of_getElem? (i := 1) rfl)) (by decide +kernel) (hb hby (by decide +kernel))
        · exact own_gP_ok hx (f := own_fw 34) (hw _ (List.mem_of_getElem? (i := 34) rfl)) rfl (own_cf hw) (Or.inr ⟨hw _ (List.mem_of_getElem? (i := 35) rfl), rfl, hnm⟩) (hw _ (List.mem_of_getElem? (i := 1) rfl)) (by decide +kernel) (hb hby (by decide +kernel))
        · exact own_gP_ok hx (f := own_fw 36) (hw _ (List.mem_of_getElem? (i := 36) rfl)) rfl (own_cf hw) (Or.inr ⟨hw _ (List.mem_of_getElem? (i := 37) rfl), rfl, hnm⟩) (hw _ (List.mem_of_getElem? (i := 1) rfl)) (by decide +kernel) (hb hby (by decide +kernel))
        · exact own_gP_ok hx (f := own_fw 38) (hw _ (List.mem_of_getElem? (i := 38) rfl)) rfl (own_cf hw) (Or.inr ⟨hw _ (List.mem_of_getElem? (i := 39) rfl), rfl, hnm⟩) (hw _ (List.mem_of_getElem? (i := 1) rfl)) (by decide +kernel) (hb hby (by decide +kernel))
      · cases hr
    · cases hr
  · cases hr
def own_hk4 (tb u w w' : Int32) : List (Nat × own_HHook) := [own_gT 10 2 20 16, own_gCall 16 10 6 2 20 0 0 1 "com/example/ackorn/ackorn/protocol/Command" (own_run3 tb u w w')]
def own_run4 (tb u w w' : Int32) (as : List Value) (H : own_H) : Option (Option Value × own_H) := if (own_entry 7 as).length = 7 then match own_hrun 2 (own_BT tb u w w') (own_Or tb u w w') (own_A tb u w w') prog_26_method_2_code (own_hk4 tb u w w') (Option.none : Option Jvm.ClassFile.FieldType) 44 0 (own_entry 7 as) [] H 0 0 with
  | some q => if q.2.2.1 ≤ 2 ∧ q.2.2.2 ≤ 20 then some (q.1, q.2.1) else none
  | none => none
  else none
set_option maxRecDepth 65536 in
theorem own_met4 (hw : ∀ d ∈ tables_1, d.before a0 Z = true) (tb u w w' : Int32) (hA : own_AOk σ τ (own_A tb u w w')) (hO : ∀ cd n z b, own_Or tb u w w' cd n z = some b → if_icmp.holds cd (σ n) z = b) (hBT : ∀ n, own_BT tb u w w' n = true → nar .byte (σ n) = σ n ∧ fits .byte (.int (σ n)) = true) (as : List Value) (H : own_H) (v : Option Value) (H' : own_H) (hr : own_run4 tb u w w' as H = some (v, H')) (ρ : Nat → Addr) (h : Heap) (I : own_Inv Z n0 2 own_FT own_SF σ τ ρ H h) :
    own_MetW Z n0 2 own_FT own_SF σ τ l (⟨"com/example/ackorn/ackorn/protocol/Command", "<init>", "(IIILjava/lang/String;Ljava/util/Map;[B)V"⟩ : MethodName) prog_26_method_2_code 7 (Option.none : Option Jvm.ClassFile.FieldType) ({ frames := 3, cells := 2, slots := 20, locals := 63 } : Room) [] ρ H h as v H' := by
  unfold own_run4 at hr
  split at hr
  · rename_i hm
    split at hr
    · rename_i q hq
      split at hr
      · rename_i hc; cases hr
        refine own_hmetW (y := (⟨"com/example/ackorn/ackorn/protocol/Command", "<init>", "(IIILjava/lang/String;Ljava/util/Map;[B)V"⟩ : MethodName)) (bytes := prog_26_method_2_code) (maxL := 7) (ret := (Option.none : Option Jvm.ClassFile.FieldType)) (rm := ({ frames := 3, cells := 2, slots := 20, locals := 63 } : Room)) (hooks := own_hk4 tb u w w') (n := 44) [] own_pn2 hBT hO hA (fun p e s m args below meth c hx hby hnm => ?_) as H _ _ _ _ hm hq hc.1 hc.2 ρ h I
        intro q hq
        simp only [own_hk4, List.mem_cons, List.not_mem_nil, or_false] at hq
        rcases hq with rfl | rfl
        · exact own_gT_ok hx own_wS (hw _ (List.mem_of_getElem? (i := 54) rfl)) (own_atoms hw) (by decide) (by decide) (by decide) (by decide) (hb hby (by decide +kernel))
        · exact own_gSp_ok (rm := ({ frames := 2, cells := 0, slots := 0, locals := 36 } : Room)) hx own_BW_step (y := (⟨"com/example/ackorn/ackorn/protocol/Command", "<init>", "(IIILjava/lang/String;Ljava/util/Map;[BLjava/lang/String;IZ)V"⟩ : MethodName)) rfl (hw _ (List.mem_of_getElem? (i := 62) rfl)) (hw _ (List.mem_of_getElem? (i := 4) rfl)) (hw _ (List.mem_of_getElem? (i := 2) rfl)) (hw _ (List.mem_of_getElem? (i := 5) rfl)) (by decide) own_pd5 rfl (by decide) (by decide) (by decide) (by decide) (fun as H v H' q ρ h I => own_met3 hw tb u w w' hA hO hBT as H v H' q ρ h I) (hb hby (by decide +kernel))
      · cases hr
    · cases hr
  · cases hr
def own_hk5 (tb u w w' : Int32) : List (Nat × own_HHook) := [own_gN 0 3 29 9 "com/example/ackorn/ackorn/protocol/Command" [.int 0, .int 0, .int 0, .null, .null, .null, .null, .int 0, .int 0], own_gF 6 1, own_gCall 14 7 6 3 29 2 20 1 "com/example/ackorn/ackorn/protocol/Command" (own_run4 tb u w w')]
def own_run5 (tb u w w' : Int32) (as : List Value) (H : own_H) : Option (Option Value × own_H) := if (own_entry 5 as).length = 5 then match own_hrun 2 (own_BT tb u w w') (own_Or tb u w w') (own_A tb u w w') prog_26_method_6_code (own_hk5 tb u w w') (Option.some (Jvm.ClassFile.FieldType.object "com/example/ackorn/ackorn/protocol/Command")) 42 0 (own_entry 5 as) [] H 0 0 with
  | some q => if q.2.2.1 ≤ 3 ∧ q.2.2.2 ≤ 29 then some (q.1, q.2.1) else none
  | none => none
  else none
set_option maxRecDepth 65536 in
theorem own_met5 (hw : ∀ d ∈ tables_1, d.before a0 Z = true) (tb u w w' : Int32) (hA : own_AOk σ τ (own_A tb u w w')) (hO : ∀ cd n z b, own_Or tb u w w' cd n z = some b → if_icmp.holds cd (σ n) z = b) (hBT : ∀ n, own_BT tb u w w' n = true → nar .byte (σ n) = σ n ∧ fits .byte (.int (σ n)) = true) (as : List Value) (H : own_H) (v : Option Value) (H' : own_H) (hr : own_run5 tb u w w' as H = some (v, H')) (ρ : Nat → Addr) (h : Heap) (I : own_Inv Z n0 2 own_FT own_SF σ τ ρ H h) :
    own_MetW Z n0 2 own_FT own_SF σ τ l (⟨"com/example/ackorn/ackorn/protocol/Command", "reply", "(ILjava/lang/String;Ljava/util/Map;[B)Lcom/example/ackorn/ackorn/protocol/Command;"⟩ : MethodName) prog_26_method_6_code 5 (Option.some (Jvm.ClassFile.FieldType.object "com/example/ackorn/ackorn/protocol/Command")) ({ frames := 4, cells := 3, slots := 29, locals := 87 } : Room) [] ρ H h as v H' := by
  unfold own_run5 at hr
  split at hr
  · rename_i hm
    split at hr
    · rename_i q hq
      split at hr
      · rename_i hc; cases hr
        refine own_hmetW (y := (⟨"com/example/ackorn/ackorn/protocol/Command", "reply", "(ILjava/lang/String;Ljava/util/Map;[B)Lcom/example/ackorn/ackorn/protocol/Command;"⟩ : MethodName)) (bytes := prog_26_method_6_code) (maxL := 5) (ret := (Option.some (Jvm.ClassFile.FieldType.object "com/example/ackorn/ackorn/protocol/Command"))) (rm := ({ frames := 4, cells := 3, slots := 29, locals := 87 } : Room)) (hooks := own_hk5 tb u w w') (n := 42) [] own_pn2 hBT hO hA (fun p e s m args below meth c hx hby hnm => ?_) as H _ _ _ _ hm hq hc.1 hc.2 ρ h I
        intro q hq
        simp only [own_hk5, List.mem_cons, List.not_mem_nil, or_false] at hq
        rcases hq with rfl | rfl | rfl
        · exact own_gN_ok hx own_wS own_BW_mono (by decide) (hw _ (List.mem_of_getElem? (i := 50) rfl)) (hw _ (List.mem_of_getElem? (i := 1) rfl)) (hw _ (List.mem_of_getElem? (i := 2) rfl)) (by decide) (by decide) (own_new hw) (by decide) (hb hby (by decide +kernel))
        · exact own_gF_ok hx (f := own_fw 24) (hw _ (List.mem_of_getElem? (i := 24) rfl)) rfl (hb hby (by decide +kernel))
        · exact own_gSp_ok (rm := ({ frames := 3, cells := 2, slots := 20, locals := 63 } : Room)) hx own_BW_step (y := (⟨"com/example/ackorn/ackorn/protocol/Command", "<init>", "(IIILjava/lang/String;Ljava/util/Map;[B)V"⟩ : MethodName)) rfl (hw _ (List.mem_of_getElem? (i := 51) rfl)) (hw _ (List.mem_of_getElem? (i := 52) rfl)) (hw _ (List.mem_of_getElem? (i := 2) rfl)) (hw _ (List.mem_of_getElem? (i := 53) rfl)) (by decide) own_pd4 rfl (by decide) (by decide) (by decide) (by decide) (fun as H v H' q ρ h I => own_met4 hw tb u w w' hA hO hBT as H v H' q ρ h I) (hb hby (by decide +kernel))
      · cases hr
    · cases hr
  · cases hr
def own_hk6 (tb u w w' : Int32) : List (Nat × own_HHook) := [own_gCall 3 0 6 3 29 0 0 0 "" (own_run2 tb u w w'), own_gS 6 (.ref 0), own_gCall 9 5 6 3 29 3 29 1 "com/example/ackorn/ackorn/protocol/Command" (own_run5 tb u w w')]
def own_run6 (tb u w w' : Int32) (as : List Value) (H : own_H) : Option (Option Value × own_H) := if (own_entry 3 as).length = 3 then match own_hrun 2 (own_BT tb u w w') (own_Or tb u w w') (own_A tb u w w') prog_26_method_5_code (own_hk6 tb u w w') (Option.some (Jvm.ClassFile.FieldType.object "com/example/ackorn/ackorn/protocol/Command")) 34 0 (own_entry 3 as) [] H 0 0 with
  | some q => if q.2.2.1 ≤ 3 ∧ q.2.2.2 ≤ 29 then some (q.1, q.2.1) else none
  | none => none
  else none
set_option maxRecDepth 65536 in
theorem own_met6 (hw : ∀ d ∈ tables_1, d.before a0 Z = true) (tb u w w' : Int32) (hA : own_AOk σ τ (own_A tb u w w')) (hO : ∀ cd n z b, own_Or tb u w w' cd n z = some b → if_icmp.holds cd (σ n) z = b) (hBT : ∀ n, own_BT tb u w w' n = true → nar .byte (σ n) = σ n ∧ fits .byte (.int (σ n)) = true) (as : List Value) (H : own_H) (v : Option Value) (H' : own_H) (hr : own_run6 tb u w w' as H = some (v, H')) (ρ : Nat → Addr) (h : Heap) (I : own_Inv Z n0 2 own_FT own_SF σ τ ρ H h) :
    own_MetW Z n0 2 own_FT own_SF σ τ l (⟨"com/example/ackorn/ackorn/protocol/Command", "reply", "(ILjava/lang/String;)Lcom/example/ackorn/ackorn/protocol/Command;"⟩ : MethodName) prog_26_method_5_code 3 (Option.some (Jvm.ClassFile.FieldType.object "com/example/ackorn/ackorn/protocol/Command")) ({ frames := 5, cells := 3, slots := 29, locals := 109 } : Room) [] ρ H h as v H' := by
  unfold own_run6 at hr
  split at hr
  · rename_i hm
    split at hr
    · rename_i q hq
      split at hr
      · rename_i hc; cases hr
        refine own_hmetW (y := (⟨"com/example/ackorn/ackorn/protocol/Command", "reply", "(ILjava/lang/String;)Lcom/example/ackorn/ackorn/protocol/Command;"⟩ : MethodName)) (bytes := prog_26_method_5_code) (maxL := 3) (ret := (Option.some (Jvm.ClassFile.FieldType.object "com/example/ackorn/ackorn/protocol/Command"))) (rm := ({ frames := 5, cells := 3, slots := 29, locals := 109 } : Room)) (hooks := own_hk6 tb u w w') (n := 34) [] own_pn2 hBT hO hA (fun p e s m args below meth c hx hby hnm => ?_) as H _ _ _ _ hm hq hc.1 hc.2 ρ h I
        intro q hq
        simp only [own_hk6, List.mem_cons, List.not_mem_nil, or_false] at hq
        rcases hq with rfl | rfl | rfl
        · exact own_gC_ok (rm := ({ frames := 0, cells := 0, slots := 0, locals := 0 } : Room)) hx own_BW_step (y := (⟨"java/util/Map", "of", "()Ljava/util/Map;"⟩ : MethodName)) (hw _ (List.mem_of_getElem? (i := 14) rfl)) (hw _ (List.mem_of_getElem? (i := 15) rfl)) (hw _ (List.mem_of_getElem? (i := 16) rfl)) (hw _ (List.mem_of_getElem? (i := 17) rfl)) (by decide) own_pd0 rfl (by decide) (by decide) (by decide) (by decide) (fun as H v H' q ρ h I => own_met2 hw tb u w w' hA hO hBT as H v H' q ρ h I) (hb hby (by decide +kernel))
        · exact own_gS_ok hx (hw _ (List.mem_of_getElem? (i := 20) rfl)) (List.mem_of_getElem? (i := 0) rfl) (hb hby (by decide +kernel))
        · exact own_gV_ok (rm := ({ frames := 4, cells := 3, slots := 29, locals := 87 } : Room)) hx own_BW_step (y := (⟨"com/example/ackorn/ackorn/protocol/Command", "reply", "(ILjava/lang/String;Ljava/util/Map;[B)Lcom/example/ackorn/ackorn/protocol/Command;"⟩ : MethodName)) (hw _ (List.mem_of_getElem? (i := 45) rfl)) (hw _ (List.mem_of_getElem? (i := 46) rfl)) (hw _ (List.mem_of_getElem? (i := 48) rfl)) (hw _ (List.mem_of_getElem? (i := 47) rfl)) (hw _ (List.mem_of_getElem? (i := 2) rfl)) (hw _ (List.mem_of_getElem? (i := 49) rfl)) (by decide) own_pd7 rfl (by decide) (by decide) (by decide) (by decide) (fun as H v H' q ρ h I => own_met5 hw tb u w w' hA hO hBT as H v H' q ρ h I) (hb hby (by decide +kernel))
      · cases hr
    · cases hr
  · cases hr
def own_hk7 (tb u w w' : Int32) : List (Nat × own_HHook) := [own_gF 1 2]
def own_run7 (tb u w w' : Int32) (as : List Value) (H : own_H) : Option (Option Value × own_H) := if (own_entry 1 as).length = 1 then match own_hrun 2 (own_BT tb u w w') (own_Or tb u w w') (own_A tb u w w') prog_26_method_4_code (own_hk7 tb u w w') (Option.some Jvm.ClassFile.FieldType.boolean) 38 0 (own_entry 1 as) [] H 0 0 with
  | some q => if q.2.2.1 ≤ 0 ∧ q.2.2.2 ≤ 0 then some (q.1, q.2.1) else none
  | none => none
  else none
set_option maxRecDepth 65536 in
theorem own_met7 (hw : ∀ d ∈ tables_1, d.before a0 Z = true) (tb u w w' : Int32) (hA : own_AOk σ τ (own_A tb u w w')) (hO : ∀ cd n z b, own_Or tb u w w' cd n z = some b → if_icmp.holds cd (σ n) z = b) (hBT : ∀ n, own_BT tb u w w' n = true → nar .byte (σ n) = σ n ∧ fits .byte (.int (σ n)) = true) (as : List Value) (H : own_H) (v : Option Value) (H' : own_H) (hr : own_run7 tb u w w' as H = some (v, H')) (ρ : Nat → Addr) (h : Heap) (I : own_Inv Z n0 2 own_FT own_SF σ τ ρ H h) :
    own_MetW Z n0 2 own_FT own_SF σ τ l (⟨"com/example/ackorn/ackorn/protocol/Command", "isOneway", "()Z"⟩ : MethodName) prog_26_method_4_code 1 (Option.some Jvm.ClassFile.FieldType.boolean) ({ frames := 0, cells := 0, slots := 0, locals := 0 } : Room) [] ρ H h as v H' := by
  unfold own_run7 at hr
  split at hr
  · rename_i hm
    split at hr
    · rename_i q hq
      split at hr
      · rename_i hc; cases hr
        refine own_hmetW (y := (⟨"com/example/ackorn/ackorn/protocol/Command", "isOneway", "()Z"⟩ : MethodName)) (bytes := prog_26_method_4_code) (maxL := 1) (ret := (Option.some Jvm.ClassFile.FieldType.boolean)) (rm := ({ frames := 0, cells := 0, slots := 0, locals := 0 } : Room)) (hooks := own_hk7 tb u w w') (n := 38) [] own_pn2 hBT hO hA (fun p e s m args below meth c hx hby hnm => ?_) as H _ _ _ _ hm hq hc.1 hc.2 ρ h I
        intro q hq
        simp only [own_hk7, List.mem_cons, List.not_mem_nil, or_false] at hq
        rcases hq with rfl
        · exact own_gF_ok hx (f := own_fw 26) (hw _ (List.mem_of_getElem? (i := 26) rfl)) rfl (hb hby (by decide +kernel))
      · cases hr
    · cases hr
  · cases hr
def own_hk8 (tb u w w' : Int32) : List (Nat × own_HHook) := [own_gN 14 16 1152 9 "com/example/ackorn/ackorn/protocol/Command" [.int 0, .int 0, .int 0, .null, .null, .null, .null, .int 0, .int 0], own_gCall 28 10 6 16 1152 0 0 1 "com/example/ackorn/ackorn/protocol/Command" (own_run3 tb u w w'), own_gN 33 16 1152 9 "com/example/ackorn/ackorn/protocol/Command" [.int 0, .int 0, .int 0, .null, .null, .null, .null, .int 0, .int 0], own_gCall 49 10 6 16 1152 0 0 1 "com/example/ackorn/ackorn/protocol/Command" (own_run3 tb u w w'), own_gCall 74 3 6 16 1152 3 29 1 "com/example/ackorn/ackorn/protocol/Command" (own_run6 tb u w w'), own_gCall 81 1 6 16 1152 0 0 1 "com/example/ackorn/ackorn/protocol/Command" (own_run7 tb u w w'), own_gCall 91 1 6 16 1152 0 0 1 "com/example/ackorn/ackorn/protocol/Command" (own_run7 tb u w w'), own_gCall 109 1 6 16 1152 0 0 1 "com/example/ackorn/ackorn/protocol/Command" (own_run7 tb u w w')]
def own_run8 (tb u w w' : Int32) (as : List Value) (H : own_H) : Option (Option Value × own_H) := if (own_entry maxLocals as).length = maxLocals then match own_hrun 2 (own_BT tb u w w') (own_Or tb u w w') (own_A tb u w w') code (own_hk8 tb u w w') ret 162 0 (own_entry maxLocals as) [] H 0 0 with
  | some q => if q.2.2.1 ≤ 16 ∧ q.2.2.2 ≤ 1152 then some (q.1, q.2.1) else none
  | none => none
  else none
set_option maxRecDepth 65536 in
theorem own_met8 (hw : ∀ d ∈ tables_1, d.before a0 Z = true) (tb u w w' : Int32) (hA : own_AOk σ τ (own_A tb u w w')) (hO : ∀ cd n z b, own_Or tb u w w' cd n z = some b → if_icmp.holds cd (σ n) z = b) (hBT : ∀ n, own_BT tb u w w' n = true → nar .byte (σ n) = σ n ∧ fits .byte (.int (σ n)) = true) (as : List Value) (H : own_H) (v : Option Value) (H' : own_H) (hr : own_run8 tb u w w' as H = some (v, H')) (ρ : Nat → Addr) (h : Heap) (I : own_Inv Z n0 2 own_FT own_SF σ τ ρ H h) :
    own_MetW Z n0 2 own_FT own_SF σ τ l x code maxLocals ret room_1 tables_1 ρ H h as v H' := by
  unfold own_run8 at hr
  split at hr
  · rename_i hm
    split at hr
    · rename_i q hq
      split at hr
      · rename_i hc; cases hr
        refine own_hmetW (y := x) (bytes := code) (maxL := maxLocals) (ret := ret) (rm := room_1) (hooks := own_hk8 tb u w w') (n := 162) tables_1 own_pn3 hBT hO hA (fun p e s m args below meth c hx hby hnm => ?_) as H _ _ _ _ hm hq hc.1 hc.2 ρ h I
        intro q hq
        simp only [own_hk8, List.mem_cons, List.not_mem_nil, or_false] at hq
        rcases hq with rfl | rfl | rfl | rfl | rfl | rfl | rfl | rfl
        · exact own_gN_ok hx own_wS own_BW_mono (by decide) (hw _ (List.mem_of_getElem? (i := 0) rfl)) (hw _ (List.mem_of_getElem? (i := 1) rfl)) (hw _ (List.mem_of_getElem? (i := 2) rfl)) (by decide) (by decide) (own_new hw) (by decide) (hb hby (by decide +kernel))
        · exact own_gSp_ok (rm := ({ frames := 2, cells := 0, slots := 0, locals := 36 } : Room)) hx own_BW_step (y := (⟨"com/example/ackorn/ackorn/protocol/Command", "<init>", "(IIILjava/lang/String;Ljava/util/Map;[BLjava/lang/String;IZ)V"⟩ : MethodName)) rfl (hw _ (List.mem_of_getElem? (i := 3) rfl)) (hw _ (List.mem_of_getElem? (i := 4) rfl)) (hw _ (List.mem_of_getElem? (i := 2) rfl)) (hw _ (List.mem_of_getElem? (i := 5) rfl)) (by decide) own_pd5 rfl (by decide) (by decide) (by decide) (by decide) (fun as H v H' q ρ h I => own_met3 hw tb u w w' hA hO hBT as H v H' q ρ h I) (hb hby (by decide +kernel))
        · exact own_gN_ok hx own_wS own_BW_mono (by decide) (hw _ (List.mem_of_getElem? (i := 0) rfl)) (hw _ (List.mem_of_getElem? (i := 1) rfl)) (hw _ (List.mem_of_getElem? (i := 2) rfl)) (by decide) (by decide) (own_new hw) (by decide) (hb hby (by decide +kernel))
        · exact own_gSp_ok (rm := ({ frames := 2, cells := 0, slots := 0, locals := 36 } : Room)) hx own_BW_step (y := (⟨"com/example/ackorn/ackorn/protocol/Command", "<init>", "(IIILjava/lang/String;Ljava/util/Map;[BLjava/lang/String;IZ)V"⟩ : MethodName)) rfl (hw _ (List.mem_of_getElem? (i := 3) rfl)) (hw _ (List.mem_of_getElem? (i := 4) rfl)) (hw _ (List.mem_of_getElem? (i := 2) rfl)) (hw _ (List.mem_of_getElem? (i := 5) rfl)) (by decide) own_pd5 rfl (by decide) (by decide) (by decide) (by decide) (fun as H v H' q ρ h I => own_met3 hw tb u w w' hA hO hBT as H v H' q ρ h I) (hb hby (by decide +kernel))
        · exact own_gV_ok (rm := ({ frames := 5, cells := 3, slots := 29, locals := 109 } : Room)) hx own_BW_step (y := (⟨"com/example/ackorn/ackorn/protocol/Command", "reply", "(ILjava/lang/String;)Lcom/example/ackorn/ackorn/protocol/Command;"⟩ : MethodName)) (hw _ (List.mem_of_getElem? (i := 40) rfl)) (hw _ (List.mem_of_getElem? (i := 41) rfl)) (hw _ (List.mem_of_getElem? (i := 43) rfl)) (hw _ (List.mem_of_getElem? (i := 42) rfl)) (hw _ (List.mem_of_getElem? (i := 2) rfl)) (hw _ (List.mem_of_getElem? (i := 44) rfl)) (by decide) own_pd6 rfl (by decide) (by decide) (by decide) (by decide) (fun as H v H' q ρ h I => own_met6 hw tb u w w' hA hO hBT as H v H' q ρ h I) (hb hby (by decide +kernel))
        · exact own_gV_ok (rm := ({ frames := 0, cells := 0, slots := 0, locals := 0 } : Room)) hx own_BW_step (y := (⟨"com/example/ackorn/ackorn/protocol/Command", "isOneway", "()Z"⟩ : MethodName)) (hw _ (List.mem_of_getElem? (i := 63) rfl)) (hw _ (List.mem_of_getElem? (i := 64) rfl)) (hw _ (List.mem_of_getElem? (i := 66) rfl)) (hw _ (List.mem_of_getElem? (i := 65) rfl)) (hw _ (List.mem_of_getElem? (i := 2) rfl)) (hw _ (List.mem_of_getElem? (i := 67) rfl)) (by decide) own_pd2 rfl (by decide) (by decide) (by decide) (by decide) (fun as H v H' q ρ h I => own_met7 hw tb u w w' hA hO hBT as H v H' q ρ h I) (hb hby (by decide +kernel))
        · exact own_gV_ok (rm := ({ frames := 0, cells := 0, slots := 0, locals := 0 } : Room)) hx own_BW_step (y := (⟨"com/example/ackorn/ackorn/protocol/Command", "isOneway", "()Z"⟩ : MethodName)) (hw _ (List.mem_of_getElem? (i := 63) rfl)) (hw _ (List.mem_of_getElem? (i := 64) rfl)) (hw _ (List.mem_of_getElem? (i := 66) rfl)) (hw _ (List.mem_of_getElem? (i := 65) rfl)) (hw _ (List.mem_of_getElem? (i := 2) rfl)) (hw _ (List.mem_of_getElem? (i := 67) rfl)) (by decide) own_pd2 rfl (by decide) (by decide) (by decide) (by decide) (fun as H v H' q ρ h I => own_met7 hw tb u w w' hA hO hBT as H v H' q ρ h I) (hb hby (by decide +kernel))
        · exact own_gV_ok (rm := ({ frames := 0, cells := 0, slots := 0, locals := 0 } : Room)) hx own_BW_step (y := (⟨"com/example/ackorn/ackorn/protocol/Command", "isOneway", "()Z"⟩ : MethodName)) (hw _ (List.mem_of_getElem? (i := 63) rfl)) (hw _ (List.mem_of_getElem? (i := 64) rfl)) (hw _ (List.mem_of_getElem? (i := 66) rfl)) (hw _ (List.mem_of_getElem? (i := 65) rfl)) (hw _ (List.mem_of_getElem? (i := 2) rfl)) (hw _ (List.mem_of_getElem? (i := 67) rfl)) (by decide) own_pd2 rfl (by decide) (by decide) (by decide) (by decide) (fun as H v H' q ρ h I => own_met7 hw tb u w w' hA hO hBT as H v H' q ρ h I) (hb hby (by decide +kernel))
      · cases hr
    · cases hr
  · cases hr
end OwnLaw
theorem own_all : ∀ tb ∈ (List.range 2).map (fun i => Int32.ofNat i), ∀ q ∈ ([(0, 0, 2), (1, 2, 0)] : List (Int32 × Int32 × Int32)), (own_run8 tb q.1 q.2.1 q.2.2 [.retAddr 0, .retAddr 1, .retAddr 2, .retAddr 3, .retAddr 4] own_H0).map (fun q => q.1) = some (some (.int 1)) := by decide +kernel
theorem own_dist (a b c : Int32) : (a ^^^ b) &&& c = (a &&& c) ^^^ (b &&& c) := by
  apply Int32.toBitVec_inj.mp
  apply BitVec.eq_of_toNat_eq
  simp only [Int32.toBitVec_and, Int32.toBitVec_xor, BitVec.toNat_and, BitVec.toNat_xor]
  exact Nat.and_xor_distrib_right
theorem own_par (u : Int32) : (XT.ushr u 1 &&& 1, u &&& 2, (u ^^^ 2) &&& 2) ∈ ([(0, 0, 2), (1, 2, 0)] : List (Int32 × Int32 × Int32)) := by
  have e1 : (u &&& 3).toInt = u.toInt % 2 ^ 2 := Jvm.Kit.i32_mask u 3 (k := 2) (by decide) (by decide)
  have e2 : (XT.ushr u 1).toInt = (u.toInt % 4294967296) / (2 ^ 1 : Nat) := c_iushr u 1 1 (by decide) (by decide)
  have e3 : (XT.ushr u 1 &&& 1).toInt = (XT.ushr u 1).toInt % 2 ^ 1 := Jvm.Kit.i32_mask _ 1 (k := 1) (by decide) (by decide)
  have e4 : u &&& 2 = (u &&& 3) &&& 2 := by rw [Int32.and_assoc]; rfl
  have e5 : (u ^^^ 2) &&& 2 = (u &&& 2) ^^^ 2 := by rw [own_dist]; rfl
  have key : ∀ z w : Int32, z.toInt = w.toInt → z = w := fun z w q => Int32.toInt_inj.mp q
  have c0 : (0 : Int32).toInt = 0 := by decide
  have c1 : (1 : Int32).toInt = 1 := by decide
  have c2 : (2 : Int32).toInt = 2 := by decide
  have c3 : (3 : Int32).toInt = 3 := by decide
  rw [e5, e4]
  have q : u.toInt % 4 = 0 ∨ u.toInt % 4 = 1 ∨ u.toInt % 4 = 2 ∨ u.toInt % 4 = 3 := by omega
  rcases q with q | q | q | q
  · have h1 : u &&& 3 = 0 := key _ _ (by omega)
    have h2 : XT.ushr u 1 &&& 1 = 0 := key _ _ (by rw [e3, e2]; omega)
    rw [h1, h2]; decide
  · have h1 : u &&& 3 = 1 := key _ _ (by omega)
    have h2 : XT.ushr u 1 &&& 1 = 0 := key _ _ (by rw [e3, e2]; omega)
    rw [h1, h2]; decide
  · have h1 : u &&& 3 = 2 := key _ _ (by omega)
    have h2 : XT.ushr u 1 &&& 1 = 1 := key _ _ (by rw [e3, e2]; omega)
    rw [h1, h2]; decide
  · have h1 : u &&& 3 = 3 := key _ _ (by omega)
    have h2 : XT.ushr u 1 &&& 1 = 1 := key _ _ (by rw [e3, e2]; omega)
    rw [h1, h2]; decide
set_option maxRecDepth 65536 in
theorem own_comes {Post : Tables → Env → Array Value → State → Outcome → State → Prop} (hpost : ∀ tb e args s v u, (limb_1_1.after args s (.returned v) u = true ∧ limb_1_2.after args s (.returned v) u = true) → ReturnedEndW s (.returned v) u (Jvm.fieldLocs frame_1_writes args s ++ Jvm.arrayLocs frame_1_arrays args s ++ Jvm.staticLocs frame_1_statics s) 16 1152 → Post tb e args s (.returned v) u) :
    ArmFor flags0 classFile x code maxLocals ret World_1 tables_1 room_1 Calls_1 rest_1 Pre_1 Post := by
  intro l hfl _ _ p e ha hc hk s m args below hf hA hF happ hP
  obtain ⟨hcalls, hrest, hpre⟩ := hP
  obtain ⟨-, -, -, hnamed, -, -, -, hat⟩ := (Spec.applies_iff hf).mp happ
  have hpre' : (Jvm.Cond.and given_1 narrow_1).before args s = true := hpre
  rw [Cond.before_and, Bool.and_eq_true] at hpre'
  obtain ⟨hg, hn⟩ := hpre'
  simp only [given_1, Cond.before_and, Bool.and_eq_true] at hg
  simp only [narrow_1, Cond.before_and, Bool.and_eq_true] at hn
  obtain ⟨n0, n1⟩ := hn
  obtain ⟨gc, g0, g1, g2, g3, g4⟩ := hg
  have hw := fun d (hd : d ∈ tables_1) => atoms_spec (ws := Jvm.Cond.code x code maxLocals ret :: tables_1) hat d (List.mem_cons_of_mem _ hd)
  have hfit : Fit s := fun {y c} hc i hi => by
    obtain ⟨ha, rfl⟩ := Array.getElem?_eq_some_iff.mp hc
    have q := List.all_eq_true.mp ((Array.all_eq_true_iff_forall_mem.mp hF) _ (Array.getElem_mem ha)) i (List.mem_range.mpr hi)
    simpa [Array.getElem?_eq_getElem hi] using q
  obtain ⟨w0, w1, w2, w3, w4, rfl⟩ : ∃ w0 w1 w2 w3 w4 : Value, args = #[w0, w1, w2, w3, w4] := by
    have hs : args.size = 5 := by simpa [Cond.before, Cond.holds, Cond.value] using gc
    obtain ⟨L⟩ := args
    match L, hs with
    | [w0, w1, w2, w3, w4], _ => exact ⟨w0, w1, w2, w3, w4, rfl⟩
  obtain ⟨i0, e0⟩ := is_v (Cond.before_iff.mp g0)
  obtain rfl : w0 = (.int i0) := Option.some.inj e0
  obtain ⟨i1, e1⟩ := is_v (Cond.before_iff.mp g1)
  obtain rfl : w1 = (.int i1) := Option.some.inj e1
  obtain ⟨i2, e2⟩ := is_v (Cond.before_iff.mp g2)
  obtain rfl : w2 = (.int i2) := Option.some.inj e2
  obtain ⟨i3, e3⟩ := is_v (Cond.before_iff.mp g3)
  obtain rfl : w3 = (.int i3) := Option.some.inj e3
  obtain ⟨i4, e4⟩ := is_v (Cond.before_iff.mp g4)
  obtain rfl : w4 = (.int i4) := Option.some.inj e4
  have hr : rest_1_c.before #[.int i0, .int i1, .int i2, .int i3, .int i4] s = true := hrest
  simp only [rest_1_c, Cond.before_and, Bool.and_eq_true] at hr
  obtain ⟨r0, r1, r2, -⟩ := hr
  obtain ⟨a0, v0⟩ := own_arrRef n0
  obtain ⟨a1, v1, -⟩ := own_exa r2
  have S0 := Sta.start v0 (Or.inr ⟨(hw _ (List.mem_of_getElem? (i := 2) rfl)), (hw _ (List.mem_of_getElem? (i := 21) rfl))⟩)
  have S1 := Sta.start v1 (Or.inl r1)
  obtain ⟨ρ, hρ⟩ : ∃ ρ : Nat → Addr, ρ 0 = a0 ∧ ρ 1 = a1 := ⟨fun i => [a0, a1].getD i 0, rfl, rfl⟩
  obtain ⟨rfl, rfl⟩ := hρ
  obtain ⟨σ, s0, s1, s2, s3, s4, s5, s6⟩ : ∃ σ : Nat → Int32, σ 0 = i0 ∧ σ 1 = i1 ∧ σ 2 = i2 ∧ σ 3 = i3 ∧ σ 4 = i4 ∧ σ 5 = i2 ^^^ 2 ∧ σ 6 = XT.ushr i2 1 := ⟨fun n => [i0, i1, i2, i3, i4, i2 ^^^ 2, XT.ushr i2 1].getD n 0, rfl, rfl, rfl, rfl, rfl, rfl, rfl⟩
  have I : own_Inv s s.heap.size 2 own_FT own_SF σ (fun _ => 0) ρ own_H0 s.heap := by
    have pr : ∀ t, own_proper own_H0 t = true → False := fun t ht => by
      obtain ⟨o, ho, hn⟩ := own_proper_at ht
      match t, ho with
      | 0, ho => cases ho; exact hn rfl
      | 1, ho => cases ho; exact hn rfl
      | n + 2, ho => exact absurd ho (by simp [own_H0])
    refine ⟨fun t o ho => ?_, fun t u ht hu q => (pr t ht).elim, fun t h1 h2 => (pr t h2).elim, Nat.le_refl _, fun q hq => ?_, Nat.le_refl _⟩
    · match t, ho with
      | 0, ho => cases ho; exact Or.inl rfl
      | 1, ho => cases ho; exact Or.inl rfl
      | n + 2, ho => exact absurd ho (by simp [own_H0])
    · simp only [own_SF, List.mem_cons, List.not_mem_nil, or_false] at hq
      rcases hq with rfl | rfl
      · exact S0
      · exact S1
  have hall := own_all _ (own_bit i4) _ (own_par i2)
  obtain ⟨⟨v, H'⟩, hrun, hv⟩ := Option.map_eq_some_iff.mp hall
  cases hv
  have hAA : own_AOk σ (fun _ => 0) (own_A (i4 &&& 1) (XT.ushr i2 1 &&& 1) (i2 &&& 2) ((i2 ^^^ 2) &&& 2)) := own_alg_ok (fun q hq => by
    simp only [List.mem_cons, List.not_mem_nil, or_false] at hq
    rcases hq with rfl | rfl | rfl | rfl | rfl | rfl
    · exact own_rBin (x := σ 4) (y := 1) (w := i4 &&& 1) (fun _ => rfl) (fun _ => rfl) (fun _ => rfl) (by rw [s4]; rfl)
    · exact own_rBin (x := σ 2) (y := 2) (w := σ 5) (fun _ => rfl) (fun _ => rfl) (fun _ => rfl) (by rw [s2, s5]; rfl)
    · exact own_rBin (x := σ 2) (y := 1) (w := σ 6) (fun _ => rfl) (fun _ => rfl) (fun _ => rfl) (by rw [s2, s6]; rfl)
    · exact own_rBin (x := σ 6) (y := 1) (w := XT.ushr i2 1 &&& 1) (fun _ => rfl) (fun _ => rfl) (fun _ => rfl) (by rw [s6]; rfl)
    · exact own_rBin (x := σ 2) (y := 2) (w := i2 &&& 2) (fun _ => rfl) (fun _ => rfl) (fun _ => rfl) (by rw [s2]; rfl)
    · exact own_rBin (x := σ 5) (y := 2) (w := (i2 ^^^ 2) &&& 2) (fun _ => rfl) (fun _ => rfl) (fun _ => rfl) (by rw [s5]; rfl))
  obtain ⟨n, o, h1, h2, h3, _, L, rfl, ⟨N, ρ', -, -, rfl, -, -⟩, hq⟩ := own_met8 (l := l) hw _ _ _ _ hAA (fun _ _ _ _ q => by cases q) (fun _ q => by cases q) [.retAddr 0, .retAddr 1, .retAddr 2, .retAddr 3, .retAddr 4] own_H0 _ _ hrun ρ s.heap I p e ha hc hk s m _ below hf ((Spec.applies_iff_loose hf).mp happ).1 ⟨(by simp [own_val, s0, s1, s2, s3, s4]), State.Warmed39.refl s, rfl⟩ trivial
  refine ⟨n, _, h1, h2, h3, hpost _ _ _ _ _ _ ⟨Cond.after_iff.mpr rfl, Cond.after_iff.mpr (eq_i res_at (Term.int_eval (1)) rfl)⟩ ⟨hq.1, hq.2.1, hq.2.2.1, (hq.2.2.2.sift fun y hy => Or.inr (N y hy)).mono (by decide) (by decide)⟩⟩
theorem main_1_1 : Claimed_1_1 := own_comes fun _ _ _ _ _ _ h hF => ⟨h.1, hF⟩
theorem main_1_2 : Claimed_1_2 := own_comes fun _ _ _ _ _ _ h hF => ⟨h.2, hF⟩
end Jvm.Pilot.@@N@@
namespace Jvm.Pilot.@@N@@
open Jvm Jvm.ClassFile Sem Op Lib Jvm.Free Jvm.Stand Jvm.Pilot.@@N@@.Jvm.D
/-! MADE BY PROGRAM (witnessworld.py) out of the Statement's table words and the real class files: 21 classes; the members and pool entries that the words name. The judged class is class 1, her method 1. -/
namespace start1
open Jvm.ClassFile
def u (s : String) : CpInfo := .utf8 (stringToUtf16 s)
/-- a pool by its gaps: so many unusable entries, then the entry; so many at the end -/
def gap : Nat → List CpInfo → List CpInfo
  | 0, r => r
  | n + 1, r => .unusable :: gap n r
def poolList (es : List (Nat × CpInfo)) (last : Nat) : List CpInfo := es.foldr (fun e r => gap e.1 (e.2 :: r)) (gap last [])
def pool (es : List (Nat × CpInfo)) (last : Nat) : Array CpInfo := ⟨poolList es last⟩
def fileOf (pool : Array CpInfo) (this : Nat) (attrs : Array Attribute := #[]) (ms : Array MethodInfo := #[]) (fl : Nat := 33) (sup : Nat := 0) (ifs : Array Nat := #[]) (fds : Array FieldInfo := #[]) : ClassFile where
  minorVersion := 0
  majorVersion := 65
  constantPool := pool
  accessFlags := fl
  thisClass := this
  superClass := sup
  interfaces := ifs
  fields := fds
  methods := ms
  attributes := attrs
def plain (name : String) (sup : Option ClassId) : Class where
  name := name
  kind := .ordinary
  loader := none
  accessFlags := 33
  super := sup
  interfaces := #[]
  cf := none
  fields := #[]
  methods := #[]
  instanceTypes := #[]
  staticTypes := #[]
  resolved := #[]
  callSites := []
  init := .initialized
  statics := none
  mirror := none

def pool0 : Array CpInfo := pool [(5, u "<init>"), (0, u "()V"), (1, .class_ 10), (1, u "java/lang/Object")] 113

def k0c0 : Code := { maxStack := 0, maxLocals := 1, code := object_method_1_code, exceptionTable := #[], attributes := #[] }
def k0m0 : Method := { name := "<init>", desc := "()V", sig := { parameters := [], returnType := none }, accessFlags := 1, code := some k0c0 }
/-- java/lang/Object -/
def k0 : Class := { plain "java/lang/Object" none with
  accessFlags := 33
  interfaces := #[]
  cf := some (fileOf pool0 8 #[] #[{ accessFlags := 1, nameIndex := 5, descriptorIndex := 6, attributes := #[] }] 33 0 #[] #[])
  fields := #[]
  methods := #[k0m0]
  instanceTypes := #[]
  staticTypes := #[]
  resolved := Array.replicate 124 none
  statics := none }

def pool1 : Array CpInfo := pool [(2, .class_ 4), (1, u "java/lang/Object"), (0, u "<init>"), (0, u "()V"), (0, .class_ 8), (0, u "com/example/ackorn/ackorn/protocol/Command"), (0, .methodref 7 10), (0, .nameAndType 5 11), (0, u "(IIILjava/lang/String;Ljava/util/Map;[BLjava/lang/String;IZ)V"), (0, .methodref 7 13), (0, .nameAndType 14 15), (0, u "reply"), (0, u "(ILjava/lang/String;)Lcom/example/ackorn/ackorn/protocol/Command;"), (0, .methodref 7 17), (0, .nameAndType 18 19), (0, u "isOneway"), (0, u "()Z"), (0, .class_ 21), (0, u "com/example/ackorn/ackorn/protocol/CommandIsOnewayPinLaw"), (2, u "law"), (0, u "(IIIII)Z")] 3

def k1m0 : Method := { name := "<init>", desc := "()V", sig := { parameters := [], returnType := none }, accessFlags := 2, code := none }
def k1c1 : Code := { maxStack := 11, maxLocals := 10, code := code, exceptionTable := #[], attributes := #[] }
def k1m1 : Method := { name := "law", desc := "(IIIII)Z", sig := { parameters := [.int, .int, .int, .int, .int], returnType := some .boolean }, accessFlags := 9, code := some k1c1 }
/-- com/example/ackorn/ackorn/protocol/CommandIsOnewayPinLaw -/
def k1 : Class := { plain "com/example/ackorn/ackorn/protocol/CommandIsOnewayPinLaw" (some 0) with
  accessFlags := 49
  interfaces := #[]
  cf := some (fileOf pool1 20 #[] #[{ accessFlags := 2, nameIndex := 5, descriptorIndex := 6, attributes := #[] }, { accessFlags := 9, nameIndex := 24, descriptorIndex := 25, attributes := #[] }] 49 2 #[] #[])
  fields := #[]
  methods := #[k1m0, k1m1]
  instanceTypes := #[]
  staticTypes := #[]
  resolved := Array.replicate 29 none
  statics := none }

def pool2 : Array CpInfo := pool [(1, .methodref 2 3), (0, .class_ 4), (0, .nameAndType 5 6), (0, u "java/lang/Object"), (0, u "<init>"), (0, u "()V"), (0, .class_ 8), (0, u "java/lang/Record")] 13

def k2c0 : Code := { maxStack := 1, maxLocals := 1, code := jdk_30_method_1_code, exceptionTable := #[], attributes := #[] }
def k2m0 : Method := { name := "<init>", desc := "()V", sig := { parameters := [], returnType := none }, accessFlags := 4, code := some k2c0 }
/-- java/lang/Record -/
def k2 : Class := { plain "java/lang/Record" (some 0) with
  accessFlags := 1057
  interfaces := #[]
  cf := some (fileOf pool2 7 #[] #[{ accessFlags := 4, nameIndex := 5, descriptorIndex := 6, attributes := #[] }] 1057 2 #[] #[])
  fields := #[]
  methods := #[k2m0]
  instanceTypes := #[]
  staticTypes := #[]
  resolved := Array.replicate 22 none
  statics := none }

def pool3 : Array CpInfo := pool [(1, .methodref 2 3), (0, .class_ 4), (0, .nameAndType 5 6), (0, u "java/lang/Record"), (0, u "<init>"), (0, u "()V"), (0, .interfaceMethodref 8 9), (0, .class_ 10), (0, .nameAndType 11 12), (0, u "java/util/Map"), (0, u "of"), (0, u "()Ljava/util/Map;"), (0, .fieldref 14 15), (0, .class_ 16), (0, .nameAndType 17 18), (0, u "com/example/ackorn/ackorn/protocol/Command"), (0, u "NO_BODY"), (0, u "[B"), (0, .fieldref 14 20), (0, .nameAndType 21 22), (0, u "code"), (0, u "I"), (0, .fieldref 14 24), (0, .nameAndType 25 22), (0, u "opaque"), (0, .fieldref 14 27), (0, .nameAndType 28 22), (0, u "flag"), (0, .fieldref 14 30), (0, .nameAndType 31 32), (0, u "remark"), (0, u "Ljava/lang/String;"), (0, .fieldref 14 34), (0, .nameAndType 35 36), (0, u "fields"), (0, u "Ljava/util/Map;"), (0, .fieldref 14 38), (0, .nameAndType 39 18), (0, u "body"), (0, .fieldref 14 41), (0, .nameAndType 42 32), (0, u "language"), (0, .fieldref 14 44), (0, .nameAndType 45 22), (0, u "version"), (0, .fieldref 14 47), (0, .nameAndType 48 49), (0, u "tooLong"), (0, u "Z"), (0, .string 51), (0, u "JAVA"), (0, .methodref 14 53), (0, .nameAndType 5 54), (0, u "(IIILjava/lang/String;Ljava/util/Map;[BLjava/lang/String;IZ)V"), (0, .methodref 14 56), (0, .nameAndType 57 58), (0, u "reply"), (0, u "(ILjava/lang/String;Ljava/util/Map;[B)Lcom/example/ackorn/ackorn/protocol/Command;"), (0, .methodref 14 60), (0, .nameAndType 5 61), (0, u "(IIILjava/lang/String;Ljava/util/Map;[B)V"), (64, u "FLAG_RESPONSE"), (2, u "FLAG_ONEWAY"), (1, u "MAX_FRAME_BYTES"), (1, u "VERSION_4_9_7"), (9, u "()Z"), (0, u "isOneway"), (0, u "(ILjava/lang/String;)Lcom/example/ackorn/ackorn/protocol/Command;")] 48

def k3c0 : Code := { maxStack := 2, maxLocals := 10, code := prog_26_method_1_code, exceptionTable := #[], attributes := #[] }
def k3m0 : Method := { name := "<init>", desc := "(IIILjava/lang/String;Ljava/util/Map;[BLjava/lang/String;IZ)V", sig := { parameters := [.int, .int, .int, (.object "java/lang/String"), (.object "java/util/Map"), (.array .byte), (.object "java/lang/String"), .int, .boolean], returnType := none }, accessFlags := 1, code := some k3c0 }
def k3c1 : Code := { maxStack := 10, maxLocals := 7, code := prog_26_method_2_code, exceptionTable := #[], attributes := #[] }
def k3m1 : Method := { name := "<init>", desc := "(IIILjava/lang/String;Ljava/util/Map;[B)V", sig := { parameters := [.int, .int, .int, (.object "java/lang/String"), (.object "java/util/Map"), (.array .byte)], returnType := none }, accessFlags := 1, code := some k3c1 }
def k3c2 : Code := { maxStack := 2, maxLocals := 1, code := prog_26_method_4_code, exceptionTable := #[], attributes := #[] }
def k3m2 : Method := { name := "isOneway", desc := "()Z", sig := { parameters := [], returnType := some .boolean }, accessFlags := 1, code := some k3c2 }
def k3c3 : Code := { maxStack := 5, maxLocals := 3, code := prog_26_method_5_code, exceptionTable := #[], attributes := #[] }
def k3m3 : Method := { name := "reply", desc := "(ILjava/lang/String;)Lcom/example/ackorn/ackorn/protocol/Command;", sig := { parameters := [.int, (.object "java/lang/String")], returnType := some (.object "com/example/ackorn/ackorn/protocol/Command") }, accessFlags := 1, code := some k3c3 }
def k3c4 : Code := { maxStack := 8, maxLocals := 5, code := prog_26_method_6_code, exceptionTable := #[], attributes := #[] }
def k3m4 : Method := { name := "reply", desc := "(ILjava/lang/String;Ljava/util/Map;[B)Lcom/example/ackorn/ackorn/protocol/Command;", sig := { parameters := [.int, (.object "java/lang/String"), (.object "java/util/Map"), (.array .byte)], returnType := some (.object "com/example/ackorn/ackorn/protocol/Command") }, accessFlags := 1, code := some k3c4 }
/-- com/example/ackorn/ackorn/protocol/Command -/
def k3 : Class := { plain "com/example/ackorn/ackorn/protocol/Command" (some 2) with
  accessFlags := 49
  interfaces := #[]
  cf := some (fileOf pool3 14 #[] #[{ accessFlags := 1, nameIndex := 5, descriptorIndex := 54, attributes := #[] }, { accessFlags := 1, nameIndex := 5, descriptorIndex := 61, attributes := #[] }, { accessFlags := 1, nameIndex := 144, descriptorIndex := 143, attributes := #[] }, { accessFlags := 1, nameIndex := 57, descriptorIndex := 145, attributes := #[] }, { accessFlags := 1, nameIndex := 57, descriptorIndex := 58, attributes := #[] }] 49 2 #[] #[{ accessFlags := 18, nameIndex := 21, descriptorIndex := 22, attributes := #[] }, { accessFlags := 18, nameIndex := 25, descriptorIndex := 22, attributes := #[] }, { accessFlags := 18, nameIndex := 28, descriptorIndex := 22, attributes := #[] }, { accessFlags := 18, nameIndex := 31, descriptorIndex := 32, attributes := #[] }, { accessFlags := 18, nameIndex := 35, descriptorIndex := 36, attributes := #[] }, { accessFlags := 18, nameIndex := 39, descriptorIndex := 18, attributes := #[] }, { accessFlags := 18, nameIndex := 42, descriptorIndex := 32, attributes := #[] }, { accessFlags := 18, nameIndex := 45, descriptorIndex := 22, attributes := #[] }, { accessFlags := 18, nameIndex := 48, descriptorIndex := 49, attributes := #[] }, { accessFlags := 25, nameIndex := 126, descriptorIndex := 22, attributes := #[] }, { accessFlags := 25, nameIndex := 129, descriptorIndex := 22, attributes := #[] }, { accessFlags := 25, nameIndex := 131, descriptorIndex := 22, attributes := #[] }, { accessFlags := 26, nameIndex := 51, descriptorIndex := 32, attributes := #[] }, { accessFlags := 26, nameIndex := 133, descriptorIndex := 22, attributes := #[] }, { accessFlags := 26, nameIndex := 17, descriptorIndex := 18, attributes := #[] }])
  fields := #[{ name := "code", type := .int, accessFlags := 18, slot := 0, constantValue := 0 }, { name := "opaque", type := .int, accessFlags := 18, slot := 1, constantValue := 0 }, { name := "flag", type := .int, accessFlags := 18, slot := 2, constantValue := 0 }, { name := "remark", type := (.object "java/lang/String"), accessFlags := 18, slot := 3, constantValue := 0 }, { name := "fields", type := (.object "java/util/Map"), accessFlags := 18, slot := 4, constantValue := 0 }, { name := "body", type := (.array .byte), accessFlags := 18, slot := 5, constantValue := 0 }, { name := "language", type := (.object "java/lang/String"), accessFlags := 18, slot := 6, constantValue := 0 }, { name := "version", type := .int, accessFlags := 18, slot := 7, constantValue := 0 }, { name := "tooLong", type := .boolean, accessFlags := 18, slot := 8, constantValue := 0 }, { name := "FLAG_RESPONSE", type := .int, accessFlags := 25, slot := 0, constantValue := 0 }, { name := "FLAG_ONEWAY", type := .int, accessFlags := 25, slot := 1, constantValue := 0 }, { name := "MAX_FRAME_BYTES", type := .int, accessFlags := 25, slot := 2, constantValue := 0 }, { name := "JAVA", type := (.object "java/lang/String"), accessFlags := 26, slot := 3, constantValue := 0 }, { name := "VERSION_4_9_7", type := .int, accessFlags := 26, slot := 4, constantValue := 0 }, { name := "NO_BODY", type := (.array .byte), accessFlags := 26, slot := 5, constantValue := 0 }]
  methods := #[k3m0, k3m1, k3m2, k3m3, k3m4]
  instanceTypes := #[.int, .int, .int, (.object "java/lang/String"), (.object "java/util/Map"), (.array .byte), (.object "java/lang/String"), .int, .boolean]
  staticTypes := #[.int, .int, .int, (.object "java/lang/String"), .int, (.array .byte)]
  resolved := Array.replicate 194 none
  statics := some 0 }

def pool4 : Array CpInfo := pool [(2, .class_ 4), (1, u "java/util/Map"), (31, .class_ 37), (0, u "java/util/Map$Entry"), (43, .fieldref 82 83), (0, .class_ 84), (0, .nameAndType 85 86), (0, u "java/util/ImmutableCollections"), (0, u "EMPTY_MAP"), (0, u "Ljava/util/ImmutableCollections$MapN;"), (6, .class_ 94), (0, u "java/lang/Object"), (13, u "of"), (0, u "()Ljava/util/Map;")] 153

def k4c0 : Code := { maxStack := 1, maxLocals := 0, code := jdk_72_method_26_code, exceptionTable := #[], attributes := #[] }
def k4m0 : Method := { name := "of", desc := "()Ljava/util/Map;", sig := { parameters := [], returnType := some (.object "java/util/Map") }, accessFlags := 9, code := some k4c0 }
/-- java/util/Map -/
def k4 : Class := { plain "java/util/Map" (some 0) with
  accessFlags := 1537
  interfaces := #[]
  cf := some (fileOf pool4 2 #[.nestMembers #[36]] #[{ accessFlags := 9, nameIndex := 108, descriptorIndex := 109, attributes := #[] }] 1537 93 #[] #[])
  fields := #[]
  methods := #[k4m0]
  instanceTypes := #[]
  staticTypes := #[]
  resolved := Array.replicate 263 none
  statics := none }

def pool5 : Array CpInfo := pool [(2, .class_ 4), (1, u "java/lang/Object"), (0, u "<init>"), (0, u "()V"), (3, .class_ 11), (0, u "java/util/ImmutableCollections$List12"), (0, .class_ 13), (0, u "java/util/ImmutableCollections$ListN"), (3, u "Z"), (29, .class_ 49), (1, u "java/util/ImmutableCollections"), (0, u "$assertionsDisabled"), (5, u "[Ljava/lang/Object;"), (5, u "EMPTY_LIST"), (0, u "Ljava/util/ImmutableCollections$ListN;"), (8, u "EMPTY_LIST_NULLS"), (22, u "SALT32L"), (0, u "J"), (2, u "REVERSE"), (6, u "archivedObjects"), (2, u "EMPTY"), (0, u "Ljava/lang/Object;"), (0, .class_ 112), (0, u "java/util/ImmutableCollections$SetN"), (5, u "EMPTY_SET"), (0, u "Ljava/util/ImmutableCollections$SetN;"), (0, .class_ 121), (0, u "java/util/ImmutableCollections$MapN"), (3, u "EMPTY_MAP"), (0, u "Ljava/util/ImmutableCollections$MapN;"), (4, u "EXPAND_FACTOR"), (0, u "I"), (36, .class_ 170), (0, u "java/util/ImmutableCollections$MapN$MapNIterator"), (0, .class_ 172), (0, u "java/util/ImmutableCollections$MapN$1"), (0, .class_ 174), (0, u "java/util/ImmutableCollections$Map1"), (0, .class_ 176), (0, u "java/util/ImmutableCollections$AbstractImmutableMap"), (0, .class_ 178), (0, u "java/util/ImmutableCollections$SetN$SetNIterator"), (0, .class_ 180), (0, u "java/util/ImmutableCollections$Set12"), (0, .class_ 182), (0, u "java/util/ImmutableCollections$Set12$1"), (0, .class_ 184), (0, u "java/util/ImmutableCollections$AbstractImmutableSet"), (0, .class_ 186), (0, u "java/util/ImmutableCollections$SubList"), (0, .class_ 188), (0, u "java/util/ImmutableCollections$ListItr"), (0, .class_ 190), (0, u "java/util/ImmutableCollections$AbstractImmutableList"), (0, .class_ 192), (0, u "java/util/ImmutableCollections$AbstractImmutableCollection"), (0, .class_ 194), (0, u "java/util/ImmutableCollections$Access"), (0, .class_ 196), (0, u "java/util/ImmutableCollections$Access$1")] 16

def k5m0 : Method := { name := "<init>", desc := "()V", sig := { parameters := [], returnType := none }, accessFlags := 2, code := none }
/-- java/util/ImmutableCollections -/
def k5 : Class := { plain "java/util/ImmutableCollections" (some 0) with
  accessFlags := 32
  interfaces := #[]
  cf := some (fileOf pool5 47 #[.nestMembers #[120, 169, 171, 173, 175, 111, 177, 179, 181, 183, 12, 10, 185, 187, 189, 191, 193, 195]] #[{ accessFlags := 2, nameIndex := 5, descriptorIndex := 6, attributes := #[] }] 32 2 #[] #[{ accessFlags := 26, nameIndex := 95, descriptorIndex := 96, attributes := #[] }, { accessFlags := 26, nameIndex := 99, descriptorIndex := 17, attributes := #[] }, { accessFlags := 10, nameIndex := 106, descriptorIndex := 56, attributes := #[] }, { accessFlags := 26, nameIndex := 109, descriptorIndex := 110, attributes := #[] }, { accessFlags := 24, nameIndex := 62, descriptorIndex := 63, attributes := #[] }, { accessFlags := 24, nameIndex := 72, descriptorIndex := 63, attributes := #[] }, { accessFlags := 24, nameIndex := 118, descriptorIndex := 119, attributes := #[] }, { accessFlags := 24, nameIndex := 125, descriptorIndex := 126, attributes := #[] }, { accessFlags := 24, nameIndex := 131, descriptorIndex := 132, attributes := #[] }, { accessFlags := 4120, nameIndex := 50, descriptorIndex := 17, attributes := #[] }])
  fields := #[{ name := "SALT32L", type := .long, accessFlags := 26, slot := 0, constantValue := 0 }, { name := "REVERSE", type := .boolean, accessFlags := 26, slot := 1, constantValue := 0 }, { name := "archivedObjects", type := (.array (.object "java/lang/Object")), accessFlags := 10, slot := 2, constantValue := 0 }, { name := "EMPTY", type := (.object "java/lang/Object"), accessFlags := 26, slot := 3, constantValue := 0 }, { name := "EMPTY_LIST", type := (.object "java/util/ImmutableCollections$ListN"), accessFlags := 24, slot := 4, constantValue := 0 }, { name := "EMPTY_LIST_NULLS", type := (.object "java/util/ImmutableCollections$ListN"), accessFlags := 24, slot := 5, constantValue := 0 }, { name := "EMPTY_SET", type := (.object "java/util/ImmutableCollections$SetN"), accessFlags := 24, slot := 6, constantValue := 0 }, { name := "EMPTY_MAP", type := (.object "java/util/ImmutableCollections$MapN"), accessFlags := 24, slot := 7, constantValue := 0 }, { name := "EXPAND_FACTOR", type := .int, accessFlags := 24, slot := 8, constantValue := 0 }, { name := "$assertionsDisabled", type := .boolean, accessFlags := 4120, slot := 9, constantValue := 0 }]
  methods := #[k5m0]
  instanceTypes := #[]
  staticTypes := #[.long, .boolean, (.array (.object "java/lang/Object")), (.object "java/lang/Object"), (.object "java/util/ImmutableCollections$ListN"), (.object "java/util/ImmutableCollections$ListN"), (.object "java/util/ImmutableCollections$SetN"), (.object "java/util/ImmutableCollections$MapN"), .int, .boolean]
  resolved := Array.replicate 213 none
  statics := some 1 }

def pool6 : Array CpInfo := pool [(1, .class_ 2), (0, u "java/io/Serializable"), (0, .class_ 4), (0, u "java/lang/Object")] 2

/-- java/io/Serializable -/
def k6 : Class := { plain "java/io/Serializable" (some 0) with
  accessFlags := 1537
  interfaces := #[]
  cf := some (fileOf pool6 1 #[] #[] 1537 3 #[] #[])
  fields := #[]
  methods := #[]
  instanceTypes := #[]
  staticTypes := #[]
  resolved := Array.replicate 7 none
  statics := none }

def pool7 : Array CpInfo := pool [(1, .class_ 2), (0, u "java/lang/Comparable"), (0, .class_ 4), (0, u "java/lang/Object")] 7

/-- java/lang/Comparable -/
def k7 : Class := { plain "java/lang/Comparable" (some 0) with
  accessFlags := 1537
  interfaces := #[]
  cf := some (fileOf pool7 1 #[] #[] 1537 3 #[] #[])
  fields := #[]
  methods := #[]
  instanceTypes := #[]
  staticTypes := #[]
  resolved := Array.replicate 12 none
  statics := none }

def pool8 : Array CpInfo := pool [(2, .class_ 4), (1, u "java/lang/CharSequence"), (42, .class_ 48), (0, u "java/lang/CharSequence$1CodePointIterator"), (10, .class_ 60), (0, u "java/lang/CharSequence$1CharIterator"), (5, .class_ 67), (0, u "java/lang/Object")] 63

/-- java/lang/CharSequence -/
def k8 : Class := { plain "java/lang/CharSequence" (some 0) with
  accessFlags := 1537
  interfaces := #[]
  cf := some (fileOf pool8 2 #[.nestMembers #[47, 59]] #[] 1537 66 #[] #[])
  fields := #[]
  methods := #[]
  instanceTypes := #[]
  staticTypes := #[]
  resolved := Array.replicate 131 none
  statics := none }

def pool9 : Array CpInfo := pool [(1, .class_ 2), (0, u "java/lang/constant/Constable"), (0, .class_ 4), (0, u "java/lang/Object")] 6

/-- java/lang/constant/Constable -/
def k9 : Class := { plain "java/lang/constant/Constable" (some 0) with
  accessFlags := 1537
  interfaces := #[]
  cf := some (fileOf pool9 1 #[] #[] 1537 3 #[] #[])
  fields := #[]
  methods := #[]
  instanceTypes := #[]
  staticTypes := #[]
  resolved := Array.replicate 11 none
  statics := none }

def pool10 : Array CpInfo := pool [(1, .class_ 2), (0, u "java/lang/constant/ConstantDesc"), (0, .class_ 4), (0, u "java/lang/Object")] 32

/-- java/lang/constant/ConstantDesc -/
def k10 : Class := { plain "java/lang/constant/ConstantDesc" (some 0) with
  accessFlags := 1537
  interfaces := #[]
  cf := some (fileOf pool10 1 #[] #[] 1537 3 #[] #[])
  fields := #[]
  methods := #[]
  instanceTypes := #[]
  staticTypes := #[]
  resolved := Array.replicate 37 none
  statics := none }

def pool11 : Array CpInfo := pool [(2, .class_ 4), (1, u "java/lang/Object"), (0, u "<init>"), (0, u "()V"), (3, .class_ 12), (1, u "java/lang/String"), (0, u "value"), (0, u "[B"), (2, u "coder"), (0, u "B"), (2, u "hash"), (0, u "I"), (2, u "hashIsZero"), (0, u "Z"), (13, u "COMPACT_STRINGS"), (534, .class_ 576), (0, u "java/lang/CharSequence"), (22, u "CASE_INSENSITIVE_ORDER"), (0, u "Ljava/util/Comparator;"), (500, u "serialPersistentFields"), (0, u "[Ljava/io/ObjectStreamField;"), (0, .class_ 1104), (0, u "java/lang/String$CaseInsensitiveComparator"), (1, .class_ 1107), (0, u "java/io/Serializable"), (0, .class_ 1109), (0, u "java/lang/Comparable"), (0, .class_ 1111), (0, u "java/lang/constant/Constable"), (0, .class_ 1113), (0, u "java/lang/constant/ConstantDesc"), (2, u "serialVersionUID"), (0, u "J"), (3, u "REPL"), (0, u "C"), (2, u "LATIN1"), (1, u "UTF16")] 323

def k11m0 : Method := { name := "<init>", desc := "()V", sig := { parameters := [], returnType := none }, accessFlags := 1, code := none }
/-- java/lang/String -/
def k11 : Class := { plain "java/lang/String" (some 0) with
  accessFlags := 49
  interfaces := #[6, 7, 8, 9, 10]
  cf := some (fileOf pool11 10 #[.nestMembers #[1103]] #[{ accessFlags := 1, nameIndex := 5, descriptorIndex := 6, attributes := #[] }] 49 2 #[1106, 1108, 575, 1110, 1112] #[{ accessFlags := 18, nameIndex := 13, descriptorIndex := 14, attributes := #[] }, { accessFlags := 18, nameIndex := 17, descriptorIndex := 18, attributes := #[] }, { accessFlags := 2, nameIndex := 21, descriptorIndex := 22, attributes := #[] }, { accessFlags := 2, nameIndex := 25, descriptorIndex := 26, attributes := #[] }, { accessFlags := 26, nameIndex := 1116, descriptorIndex := 1117, attributes := #[] }, { accessFlags := 24, nameIndex := 40, descriptorIndex := 26, attributes := #[] }, { accessFlags := 26, nameIndex := 1101, descriptorIndex := 1102, attributes := #[] }, { accessFlags := 26, nameIndex := 1121, descriptorIndex := 1122, attributes := #[] }, { accessFlags := 25, nameIndex := 599, descriptorIndex := 600, attributes := #[] }, { accessFlags := 24, nameIndex := 1125, descriptorIndex := 18, attributes := #[] }, { accessFlags := 24, nameIndex := 1127, descriptorIndex := 18, attributes := #[] }])
  fields := #[{ name := "value", type := (.array .byte), accessFlags := 18, slot := 0, constantValue := 0 }, { name := "coder", type := .byte, accessFlags := 18, slot := 1, constantValue := 0 }, { name := "hash", type := .int, accessFlags := 2, slot := 2, constantValue := 0 }, { name := "hashIsZero", type := .boolean, accessFlags := 2, slot := 3, constantValue := 0 }, { name := "serialVersionUID", type := .long, accessFlags := 26, slot := 0, constantValue := 0 }, { name := "COMPACT_STRINGS", type := .boolean, accessFlags := 24, slot := 1, constantValue := 0 }, { name := "serialPersistentFields", type := (.array (.object "java/io/ObjectStreamField")), accessFlags := 26, slot := 2, constantValue := 0 }, { name := "REPL", type := .char, accessFlags := 26, slot := 3, constantValue := 0 }, { name := "CASE_INSENSITIVE_ORDER", type := (.object "java/util/Comparator"), accessFlags := 25, slot := 4, constantValue := 0 }, { name := "LATIN1", type := .byte, accessFlags := 24, slot := 5, constantValue := 0 }, { name := "UTF16", type := .byte, accessFlags := 24, slot := 6, constantValue := 0 }]
  methods := #[k11m0]
  instanceTypes := #[(.array .byte), .byte, .int, .boolean]
  staticTypes := #[.long, .boolean, (.array (.object "java/io/ObjectStreamField")), .char, (.object "java/util/Comparator"), .byte, .byte]
  resolved := Array.replicate 1451 none
  statics := none }

def pool12 : Array CpInfo := pool [(2, .class_ 4), (1, u "java/lang/Object"), (0, u "<init>"), (0, u "()V"), (1, .class_ 10), (1, u "java/util/AbstractMap"), (42, .class_ 54), (0, u "java/util/Map"), (9, u "keySet"), (0, u "Ljava/util/Set;"), (0, .class_ 67), (0, u "java/util/AbstractMap$1"), (5, u "values"), (0, u "Ljava/util/Collection;"), (0, .class_ 76), (0, u "java/util/AbstractMap$2"), (104, .class_ 182), (0, u "java/util/AbstractMap$ViewCollection"), (0, .class_ 184), (0, u "java/util/AbstractMap$SimpleImmutableEntry"), (0, .class_ 186), (0, u "java/util/AbstractMap$SimpleEntry"), (0, .class_ 188), (0, u "java/util/AbstractMap$2$1"), (0, .class_ 190), (0, u "java/util/AbstractMap$1$1")] 5

def k12m0 : Method := { name := "<init>", desc := "()V", sig := { parameters := [], returnType := none }, accessFlags := 4, code := none }
/-- java/util/AbstractMap -/
def k12 : Class := { plain "java/util/AbstractMap" (some 0) with
  accessFlags := 1057
  interfaces := #[4]
  cf := some (fileOf pool12 8 #[.nestMembers #[181, 183, 185, 75, 187, 66, 189]] #[{ accessFlags := 4, nameIndex := 5, descriptorIndex := 6, attributes := #[] }] 1057 2 #[53] #[{ accessFlags := 128, nameIndex := 64, descriptorIndex := 65, attributes := #[] }, { accessFlags := 128, nameIndex := 73, descriptorIndex := 74, attributes := #[] }])
  fields := #[{ name := "keySet", type := (.object "java/util/Set"), accessFlags := 128, slot := 0, constantValue := 0 }, { name := "values", type := (.object "java/util/Collection"), accessFlags := 128, slot := 1, constantValue := 0 }]
  methods := #[k12m0]
  instanceTypes := #[(.object "java/util/Set"), (.object "java/util/Collection")]
  staticTypes := #[]
  resolved := Array.replicate 196 none
  statics := none }

def pool13 : Array CpInfo := pool [(2, .class_ 4), (1, u "java/util/AbstractMap"), (0, u "<init>"), (0, u "()V"), (1, .class_ 10), (1, u "java/util/ImmutableCollections"), (3, .class_ 16), (1, u "java/util/ImmutableCollections$AbstractImmutableMap"), (2, .class_ 20), (0, u "java/io/Serializable")] 66

def k13m0 : Method := { name := "<init>", desc := "()V", sig := { parameters := [], returnType := none }, accessFlags := 0, code := none }
/-- java/util/ImmutableCollections$AbstractImmutableMap -/
def k13 : Class := { plain "java/util/ImmutableCollections$AbstractImmutableMap" (some 12) with
  accessFlags := 1056
  interfaces := #[6]
  cf := some (fileOf pool13 14 #[.nestHost 8] #[{ accessFlags := 0, nameIndex := 5, descriptorIndex := 6, attributes := #[] }] 1056 2 #[19] #[])
  fields := #[]
  methods := #[k13m0]
  instanceTypes := #[(.object "java/util/Set"), (.object "java/util/Collection")]
  staticTypes := #[]
  resolved := Array.replicate 87 none
  statics := none }

def pool14 : Array CpInfo := pool [(1, .class_ 2), (0, u "java/util/ImmutableCollections"), (1, .class_ 6), (1, u "java/util/ImmutableCollections$AbstractImmutableMap"), (10, .class_ 19), (1, u "java/util/ImmutableCollections$MapN"), (0, u "size"), (0, u "I"), (4, u "table"), (0, u "[Ljava/lang/Object;")] 121

/-- java/util/ImmutableCollections$MapN -/
def k14 : Class := { plain "java/util/ImmutableCollections$MapN" (some 13) with
  accessFlags := 48
  interfaces := #[]
  cf := some (fileOf pool14 17 #[.nestHost 1] #[] 48 4 #[] #[{ accessFlags := 16, nameIndex := 26, descriptorIndex := 27, attributes := #[] }, { accessFlags := 16, nameIndex := 20, descriptorIndex := 21, attributes := #[] }])
  fields := #[{ name := "table", type := (.array (.object "java/lang/Object")), accessFlags := 16, slot := 2, constantValue := 0 }, { name := "size", type := .int, accessFlags := 16, slot := 3, constantValue := 0 }]
  methods := #[]
  instanceTypes := #[(.object "java/util/Set"), (.object "java/util/Collection"), (.array (.object "java/lang/Object")), .int]
  staticTypes := #[]
  resolved := Array.replicate 149 none
  statics := none }

def pool15 : Array CpInfo := pool [(1, u "java/lang/Cloneable"), (0, .class_ 1), (0, u "java/lang/Object"), (0, .class_ 3)] 3

/-- java/lang/Cloneable -/
def k15 : Class := { plain "java/lang/Cloneable" (some 0) with
  accessFlags := 1537
  interfaces := #[]
  cf := some (fileOf pool15 2 #[] #[] 1537 4 #[] #[])
  fields := #[]
  methods := #[]
  instanceTypes := #[]
  staticTypes := #[]
  resolved := Array.replicate 8 none
  statics := none }

/-- the primitive byte -/
def k16 : Class := { plain "byte" none with kind := .primitive 'B', accessFlags := 0x411 }
/-- [B -/
def k17 : Class := { plain "[B" (some 0) with kind := .array 16 .byte, interfaces := #[15, 6], accessFlags := 1041 }

/-- the primitive int -/
def k18 : Class := { plain "int" none with kind := .primitive 'I', accessFlags := 0x411 }
/-- [I -/
def k19 : Class := { plain "[I" (some 0) with kind := .array 18 .int, interfaces := #[15, 6], accessFlags := 1041 }

/-- [Ljava/lang/Object; -/
def k20 : Class := { plain "[Ljava/lang/Object;" (some 0) with kind := .array 0 (.object "java/lang/Object"), interfaces := #[15, 6], accessFlags := 1041 }

def heap : Heap := #[{ cls := 3, slots := #[.int 0, .int 0, .int 0, .null, .int 0, .ref 3], vm := .statics 3 },
  { cls := 5, slots := #[.long 0, .int 0, .null, .null, .null, .null, .null, .ref 4, .int 0, .int 0], vm := .statics 5 },
  { cls := 20, slots := #[], vm := .none },
  { cls := 17, slots := #[], vm := .none },
  { cls := 14, slots := #[.null, .null, .ref 2, .int 0], vm := .none }]
def classes : Array Class := #[k0, k1, k2, k3, k4, k5, k6, k7, k8, k9, k10, k11, k12, k13, k14, k15, k16, k17, k18, k19, k20]
def interned : List (Array UInt16 × Addr) := []
def slotsUsed : Nat := 20
def theMethod : MethodId := ⟨1, 1⟩
def args0 : Array Value := #[.int 0, .int 1, .int 2, .int 3, .int 4]
def aboutOver (below : List Frame) : State where
  vm := { classes := classes, interned := interned.toArray }
  heap := heap
  slotsUsed := slotsUsed
  threads := #[{ frames := .invoking theMethod args0 :: below }]
def below0 : List Frame := [.native { method := ⟨0, 0⟩, args := #[] }]
def about1 : State := aboutOver below0
def p0 : Program := .bare "" "" ""
def e0 : Env := launch0.env 0 0 0
theorem w_frames : about1.frames = Frame.invoking theMethod args0 :: below0 := rfl
set_option maxRecDepth 65536 in
theorem w_args : argsFit about1.vm theMethod args0 = true := by decide +kernel
set_option maxRecDepth 65536 in
theorem w_heap : heapFits about1 = true := by decide +kernel
set_option maxRecDepth 65536 in
theorem w_runnable : about1.curStatus? = some .runnable := by decide +kernel
set_option maxRecDepth 65536 in
theorem w_alone : about1.alone = true := by decide +kernel
set_option maxRecDepth 65536 in
theorem w_named : about1.methodNamed? x = some theMethod := by decide +kernel
set_option maxRecDepth 65536 in
theorem w_hears : about1.hears theMethod below0 = true := by decide +kernel
set_option maxRecDepth 65536 in
theorem w_ripe : about1.ripe theMethod args0 below0 = true := by decide +kernel
theorem w_running : about1.status = .running := rfl
set_option maxRecDepth 65536 in
theorem w_room : about1.hasRoom e0.platform room_1 = true :=
  launch0.hasRoom_least _ room_1 (by decide +kernel) (by decide +kernel) (by decide +kernel) (by decide +kernel) (by decide +kernel) (by decide +kernel)
theorem allAtoms_all (ts : List Jvm.Cond) (a : Array Jvm.Value) (st : Jvm.State) : (allAtoms ts).before a st = ts.all (fun c => c.before a st) := by
  induction ts with
  | nil => rfl
  | cons c t ih =>
    show (Jvm.Cond.and c (allAtoms t)).before a st = _
    rw [Jvm.Cond.before_and, ih, List.all_cons]
def words1 : List Jvm.Cond := Jvm.Cond.code x code maxLocals ret :: tables_1
/-- a 'code' word, met by the world's own term for the bytes: nothing is compared byte by byte -/
theorem code_word {y : MethodName} {bytes : ByteArray} {mx : Nat} {rt : Option FieldType} {a : Array Value} {s : State} {m : MethodId} {meth : Method} {c : Code} (h1 : s.methodNamed? y = some m) (h2 : s.vm.method? m = some meth) (h3 : meth.code = some c) (h4 : c.code = bytes)
    (h5 : (c.maxLocals == mx && c.exceptionTable.isEmpty && decide (c.maxStack ≤ mostOperands) && decide (meth.sig.returnType = rt) && !meth.locks && decide (parseMethodDescriptor y.desc = some meth.sig)) = true) : (Jvm.Cond.code y bytes mx rt).before a s = true := by
  simp only [Bool.and_eq_true, beq_iff_eq, Bool.not_eq_true', decide_eq_true_eq] at h5
  obtain ⟨⟨⟨⟨⟨g1, g2⟩, g3⟩, g4⟩, g5⟩, g6⟩ := h5
  simp [Cond.before, Cond.holds, Cond.value, h1, h2, h3, h4, g1, g2, g3, g4, g5, g6]
def isCode : Jvm.Cond → Bool
  | .code _ _ _ _ => true
  | _ => false
theorem all_split {L : List Jvm.Cond} {P : Jvm.Cond → Bool} (h1 : L.all (fun c => isCode c || P c) = true) (h2 : ∀ c ∈ L.filter isCode, P c = true) : L.all P = true := by
  refine List.all_eq_true.mpr fun c hc => ?_
  have h := List.all_eq_true.mp h1 c hc
  rcases Bool.eq_false_or_eq_true (isCode c) with hi | hi
  · exact h2 c (List.mem_filter.mpr ⟨hc, hi⟩)
  · simpa [hi] using h
set_option maxRecDepth 65536 in
theorem w_c0 : (Jvm.Cond.code x code maxLocals ret).before args0 about1 = true := code_word (m := ⟨1, 1⟩) (meth := k1m1) (c := k1c1) (by decide +kernel) rfl rfl rfl (by decide +kernel)
set_option maxRecDepth 65536 in
theorem w_c1 : (Jvm.Cond.code ({ cls := "com/example/ackorn/ackorn/protocol/Command", name := "<init>", desc := "(IIILjava/lang/String;Ljava/util/Map;[BLjava/lang/String;IZ)V" } : Jvm.MethodName) prog_26_method_1_code (10 : Nat) (Option.none : Option Jvm.ClassFile.FieldType)).before args0 about1 = true := code_word (m := ⟨3, 0⟩) (meth := k3m0) (c := k3c0) (by decide +kernel) rfl rfl rfl (by decide +kernel)
set_option maxRecDepth 65536 in
theorem w_c2 : (Jvm.Cond.code ({ cls := "java/lang/Record", name := "<init>", desc := "()V" } : Jvm.MethodName) jdk_30_method_1_code (1 : Nat) (Option.none : Option Jvm.ClassFile.FieldType)).before args0 about1 = true := code_word (m := ⟨2, 0⟩) (meth := k2m0) (c := k2c0) (by decide +kernel) rfl rfl rfl (by decide +kernel)
set_option maxRecDepth 65536 in
theorem w_c3 : (Jvm.Cond.code ({ cls := "java/lang/Object", name := "<init>", desc := "()V" } : Jvm.MethodName) object_method_1_code (1 : Nat) (Option.none : Option Jvm.ClassFile.FieldType)).before args0 about1 = true := code_word (m := ⟨0, 0⟩) (meth := k0m0) (c := k0c0) (by decide +kernel) rfl rfl rfl (by decide +kernel)
set_option maxRecDepth 65536 in
theorem w_c4 : (Jvm.Cond.code ({ cls := "java/util/Map", name := "of", desc := "()Ljava/util/Map;" } : Jvm.MethodName) jdk_72_method_26_code (0 : Nat) (Option.some (Jvm.ClassFile.FieldType.object "java/util/Map"))).before args0 about1 = true := code_word (m := ⟨4, 0⟩) (meth := k4m0) (c := k4c0) (by decide +kernel) rfl rfl rfl (by decide +kernel)
set_option maxRecDepth 65536 in
theorem w_c5 : (Jvm.Cond.code ({ cls := "com/example/ackorn/ackorn/protocol/Command", name := "reply", desc := "(ILjava/lang/String;)Lcom/example/ackorn/ackorn/protocol/Command;" } : Jvm.MethodName) prog_26_method_5_code (3 : Nat) (Option.some (Jvm.ClassFile.FieldType.object "com/example/ackorn/ackorn/protocol/Command"))).before args0 about1 = true := code_word (m := ⟨3, 3⟩) (meth := k3m3) (c := k3c3) (by decide +kernel) rfl rfl rfl (by decide +kernel)
set_option maxRecDepth 65536 in
theorem w_c6 : (Jvm.Cond.code ({ cls := "com/example/ackorn/ackorn/protocol/Command", name := "reply", desc := "(ILjava/lang/String;Ljava/util/Map;[B)Lcom/example/ackorn/ackorn/protocol/Command;" } : Jvm.MethodName) prog_26_method_6_code (5 : Nat) (Option.some (Jvm.ClassFile.FieldType.object "com/example/ackorn/ackorn/protocol/Command"))).before args0 about1 = true := code_word (m := ⟨3, 4⟩) (meth := k3m4) (c := k3c4) (by decide +kernel) rfl rfl rfl (by decide +kernel)
set_option maxRecDepth 65536 in
theorem w_c7 : (Jvm.Cond.code ({ cls := "com/example/ackorn/ackorn/protocol/Command", name := "<init>", desc := "(IIILjava/lang/String;Ljava/util/Map;[B)V" } : Jvm.MethodName) prog_26_method_2_code (7 : Nat) (Option.none : Option Jvm.ClassFile.FieldType)).before args0 about1 = true := code_word (m := ⟨3, 1⟩) (meth := k3m1) (c := k3c1) (by decide +kernel) rfl rfl rfl (by decide +kernel)
set_option maxRecDepth 65536 in
theorem w_c8 : (Jvm.Cond.code ({ cls := "com/example/ackorn/ackorn/protocol/Command", name := "isOneway", desc := "()Z" } : Jvm.MethodName) prog_26_method_4_code (1 : Nat) (Option.some Jvm.ClassFile.FieldType.boolean)).before args0 about1 = true := code_word (m := ⟨3, 2⟩) (meth := k3m2) (c := k3c2) (by decide +kernel) rfl rfl rfl (by decide +kernel)
def codes1 : List Jvm.Cond := [Jvm.Cond.code x code maxLocals ret, Jvm.Cond.code ({ cls := "com/example/ackorn/ackorn/protocol/Command", name := "<init>", desc := "(IIILjava/lang/String;Ljava/util/Map;[BLjava/lang/String;IZ)V" } : Jvm.MethodName) prog_26_method_1_code (10 : Nat) (Option.none : Option Jvm.ClassFile.FieldType), Jvm.Cond.code ({ cls := "java/lang/Record", name := "<init>", desc := "()V" } : Jvm.MethodName) jdk_30_method_1_code (1 : Nat) (Option.none : Option Jvm.ClassFile.FieldType), Jvm.Cond.code ({ cls := "java/lang/Object", name := "<init>", desc := "()V" } : Jvm.MethodName) object_method_1_code (1 : Nat) (Option.none : Option Jvm.ClassFile.FieldType), Jvm.Cond.code ({ cls := "java/util/Map", name := "of", desc := "()Ljava/util/Map;" } : Jvm.MethodName) jdk_72_method_26_code (0 : Nat) (Option.some (Jvm.ClassFile.FieldType.object "java/util/Map")), Jvm.Cond.code ({ cls := "com/example/ackorn/ackorn/protocol/Command", name := "reply", desc := "(ILjava/lang/String;)Lcom/example/ackorn/ackorn/protocol/Command;" } : Jvm.MethodName) prog_26_method_5_code (3 : Nat) (Option.some (Jvm.ClassFile.FieldType.object "com/example/ackorn/ackorn/protocol/Command")), Jvm.Cond.code ({ cls := "com/example/ackorn/ackorn/protocol/Command", name := "reply", desc := "(ILjava/lang/String;Ljava/util/Map;[B)Lcom/example/ackorn/ackorn/protocol/Command;" } : Jvm.MethodName) prog_26_method_6_code (5 : Nat) (Option.some (Jvm.ClassFile.FieldType.object "com/example/ackorn/ackorn/protocol/Command")), Jvm.Cond.code ({ cls := "com/example/ackorn/ackorn/protocol/Command", name := "<init>", desc := "(IIILjava/lang/String;Ljava/util/Map;[B)V" } : Jvm.MethodName) prog_26_method_2_code (7 : Nat) (Option.none : Option Jvm.ClassFile.FieldType), Jvm.Cond.code ({ cls := "com/example/ackorn/ackorn/protocol/Command", name := "isOneway", desc := "()Z" } : Jvm.MethodName) prog_26_method_4_code (1 : Nat) (Option.some Jvm.ClassFile.FieldType.boolean)]
set_option maxRecDepth 65536 in
theorem codes_eq : words1.filter isCode = codes1 := rfl
theorem w_codes : ∀ c ∈ words1.filter isCode, c.before args0 about1 = true := by
  rw [codes_eq]
  intro c hc
  simp only [codes1, List.mem_cons, List.not_mem_nil, or_false] at hc
  rcases hc with rfl | rfl | rfl | rfl | rfl | rfl | rfl | rfl | rfl
  · exact w_c0
  · exact w_c1
  · exact w_c2
  · exact w_c3
  · exact w_c4
  · exact w_c5
  · exact w_c6
  · exact w_c7
  · exact w_c8
set_option maxRecDepth 65536 in
theorem w_t1 : (words1.take 24).all (fun c => isCode c || c.before args0 about1) = true := by decide +kernel
set_option maxRecDepth 65536 in
theorem w_t2 : ((words1.drop 24).take 24).all (fun c => isCode c || c.before args0 about1) = true := by decide +kernel
set_option maxRecDepth 65536 in
theorem w_t3 : ((words1.drop 24).drop 24).all (fun c => isCode c || c.before args0 about1) = true := by decide +kernel
theorem w_tables : (allAtoms (Jvm.Cond.code x code maxLocals ret :: tables_1)).before args0 about1 = true := by
  rw [allAtoms_all]
  show words1.all (fun c => c.before args0 about1) = true
  refine all_split ?_ w_codes
  rw [← List.take_append_drop 24 words1, List.all_append, w_t1, ← List.take_append_drop 24 (words1.drop 24), List.all_append, w_t2, w_t3]
  rfl
set_option maxRecDepth 65536 in
theorem w_rest : rest_1_c.before args0 about1 = true := by decide +kernel
set_option maxRecDepth 65536 in
theorem w_case : (Jvm.Cond.and given_1 narrow_1).before args0 about1 = true := by decide +kernel
theorem w_applies : (headSpec (Jvm.Cond.code x code maxLocals ret :: tables_1) room_1).applies x e0.platform about1 = true :=
  (Spec.applies_iff w_frames).mpr ⟨w_running, w_runnable, w_alone, w_named, w_hears, w_ripe, w_room, w_tables⟩
theorem atStart : AtStart classFile x code maxLocals ret World_1 tables_1 room_1 Calls_1 rest_1 Pre_1 launch0 p0 e0 about1 theMethod args0 below0 :=
  ⟨lists_1, trivial, launch0.admits_env _ _ _, launch0.least_env, fairChoices_fair.cas, fairChoices_fair.clock, w_frames, w_args, w_heap, w_applies, trivial, w_rest, w_case⟩
end start1
theorem witness_1 : WitnessClaimed_1 := ⟨start1.p0, start1.e0, start1.about1, start1.theMethod, start1.args0, start1.below0, start1.atStart⟩
end Jvm.Pilot.@@N@@
