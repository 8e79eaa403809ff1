/- A logic of heaps. Part 4: what one reading operation yields, as a function of the frame and the heap; that later heaps yield the same. -/
import Derived.Test.YtklhfckdifkpaaaGl3
set_option linter.unusedSimpArgs false
set_option linter.unusedVariables false
set_option linter.unnecessarySimpa false
namespace GL
open Go

theorem run_binv_of {P : Program} {op : BinOp} {t : TypeId} {x y v : Value} (h : binv P op t x y = some v) (ox oy : Operand) (w : World) :
    (do eqGuard op t ox oy x y; binOp op t x y : Sem Value).run P w = .ok v w := by
  cases op
  case eql =>
    simp only [binv, Option.map_eq_some_iff] at h
    obtain ⟨b, hb, rfl⟩ := h
    exact (run_eq_of hb ox oy w).1
  case neq =>
    simp only [binv, Option.map_eq_some_iff] at h
    obtain ⟨b, hb, rfl⟩ := h
    exact (run_eq_of hb ox oy w).2
  case add =>
    simp only [binv] at h
    split at h
    · split at h
      · rename_i hk; subst hk; cases h; simp [eqGuard, binOp, Op.intArith]
      · cases h
    · split at h
      · rename_i a b h1
        cases h
        have h3 : ¬ (((a.size + b.size : Nat) : Int) > IntKind.i64.max) := by
          have : IntKind.i64.max = 9223372036854775807 := by decide
          omega
        simp only [eqGuard, binOp, Op.stringOp, if_neg h3]
        rfl
      · cases h
    · cases h
  case sub =>
    simp only [binv] at h
    split at h
    · split at h
      · rename_i hk; subst hk; cases h; simp [eqGuard, binOp, Op.intArith]
      · cases h
    · cases h
  case mul =>
    simp only [binv] at h
    split at h
    · split at h
      · rename_i hk; subst hk; cases h; simp [eqGuard, binOp, Op.intArith]
      · cases h
    · cases h
  case quo =>
    simp only [binv] at h
    split at h
    · split at h
      · rename_i hk; obtain ⟨rfl, h1⟩ := hk; cases h; simp [eqGuard, binOp, Op.intDiv, h1]
      · cases h
    · cases h
  case rem =>
    simp only [binv] at h
    split at h
    · split at h
      · rename_i hk; obtain ⟨rfl, h1⟩ := hk; cases h; simp [eqGuard, binOp, Op.intDiv, h1]
      · cases h
    · cases h
  case shl =>
    simp only [binv] at h
    split at h
    · split at h
      · rename_i h1; cases h; simp [eqGuard, binOp, Op.shift, Int.not_lt.2 h1]
      · cases h
    · cases h
  case shr =>
    simp only [binv] at h
    split at h
    · split at h
      · rename_i h1; cases h; simp [eqGuard, binOp, Op.shift, Int.not_lt.2 h1]
      · cases h
    · cases h
  case lss =>
    simp only [binv] at h
    split at h
    · split at h
      · rename_i hk; subst hk; cases h; simp [eqGuard, binOp, Op.intCmp]
      · cases h
    · cases h; simp [eqGuard, binOp, Op.stringOp]
    · cases h
  case leq =>
    simp only [binv] at h
    split at h
    · split at h
      · rename_i hk; subst hk; cases h; simp [eqGuard, binOp, Op.intCmp]
      · cases h
    · cases h
  case gtr =>
    simp only [binv] at h
    split at h
    · split at h
      · rename_i hk; subst hk; cases h; simp [eqGuard, binOp, Op.intCmp]
      · cases h
    · cases h; simp [eqGuard, binOp, Op.stringOp]
    · cases h
  case geq =>
    simp only [binv] at h
    split at h
    · split at h
      · rename_i hk; subst hk; cases h; simp [eqGuard, binOp, Op.intCmp]
      · cases h
    · cases h
  all_goals (simp only [binv] at h; cases h)

/-! The other operations. -/
def lenv (P : Program) (t : TypeId) (x : Value) (h : Heap) : Option Value :=
  match P.underlying t, x with
  | some .string, .string s => some (.int .i64 s.size)
  | some (.slice _), .slice _ n _ => some (.int .i64 n)
  | some (.map _ _), .map none => some (.int .i64 0)
  | some (.map _ _), .map (some r) => (match h[r]? with | some (.map es _) => some (.int .i64 es.size) | _ => none)
  | _, _ => none
def fieldv (P : Program) (s : TypeId) (x : Value) (f : Nat) : Option Value :=
  match P.underlying s, x with
  | some (.struct fs), .pointer (some ⟨b, off, none⟩) => (match fs[f]? with
    | some fd => (match sizeB P fd.type with | some (_ + 1) => some (.pointer (some ⟨b, off + fd.offset, none⟩)) | _ => none)
    | none => none)
  | _, _ => none
def partv (P : Program) (s : TypeId) (x : Value) (f : Nat) : Option Value :=
  match P.underlying s, x with
  | some (.struct fs), .agg cs => (match fs[f]? with
    | some fd => partB P fd.type cs fd.offset
    | none => none)
  | _, _ => none
def idxv (P : Program) (t : TypeId) (x i : Value) : Option Value :=
  match P.underlying t, x, i with
  | some (.slice el), .slice (some ⟨b, off, none⟩) len _, .int _ n => (match sizeB P el with
    | some sz => if 0 ≤ n ∧ n < len then some (.pointer (some ⟨b, off + n.toNat * sz, none⟩)) else none
    | none => none)
  | some (.array len el), .pointer (some ⟨b, off, none⟩), .int _ n => (match sizeB P el with
    | some sz => if 0 ≤ n ∧ n < len then some (.pointer (some ⟨b, off + n.toNat * sz, none⟩)) else none
    | none => none)
  | _, _, _ => none
def elemv (P : Program) (t : TypeId) (x i : Value) : Option Value :=
  match P.underlying t, x, i with
  | some (.array len el), .agg cs, .int _ n => (match sizeB P el with
    | some sz => if 0 ≤ n ∧ n < len then partB P el cs (n.toNat * sz) else none
    | none => none)
  | some .string, .string s, .int _ n => if 0 ≤ n then (s[n.toNat]?).map (fun b => .int .u8 b.toNat) else none
  | _, _, _ => none
def bytesv : List Value → Option (List UInt8)
  | [] => some []
  | .int .u8 n :: l => (bytesv l).map (UInt8.ofNat n.toNat :: ·)
  | _ => none
def convv (P : Program) (src dst : TypeId) (x : Value) (h : Heap) : Option Value :=
  match P.underlying src, P.underlying dst, x with
  | some (.int _), some (.int k), .int _ n => some (.int k (k.wrap n))
  | some .string, some .string, .string s => some (.string s)
  | some (.slice el), some .string, .slice (some ⟨b, off, none⟩) len _ => (match P.underlying el with
    | some (.int .u8) => (match readN h b off len with | some l => (bytesv l).map (fun l => .string ⟨l.toArray⟩) | none => none)
    | _ => none)
  | _, _, _ => none
def bnd (v : Option Value) (d top : Nat) : Option Nat :=
  match v with
  | none => some d
  | some (.int _ n) => if 0 ≤ n ∧ n ≤ top then some n.toNat else none
  | some _ => none
def slicev (P : Program) (t : TypeId) (x : Value) (lo hi mx : Option Value) : Option Value :=
  match P.underlying t, x with
  | some .string, .string s => (match mx, bnd hi s.size s.size with
    | none, some hh => (match bnd lo 0 hh with | some l => some (.string (s.extract l hh)) | none => none)
    | _, _ => none)
  | some (.slice el), .slice a len cap => (match hi, bnd mx cap cap, sizeB P el with
    | none, some m, some sz => if mx.isSome then none else (match bnd lo 0 len with
      | some l => some (.slice (if m = l then a else a.map (·.add (l * sz))) (len - l) (m - l)) | none => none)
    | some hv, some m, some sz => (match bnd (some hv) 0 m with
      | some hh => (match bnd lo 0 hh with
        | some l => some (.slice (if m = l then a else a.map (·.add (l * sz))) (hh - l) (m - l))
        | none => none)
      | none => none)
    | _, _, _ => none)
  | _, _ => none
open Classical in
noncomputable def lookv (P : Program) (t : TypeId) (m k : Value) (ok : Bool) (h : Heap) : Option Value :=
  match m with
  | .map none => if hx : ∃ v, ∀ w, (Instr.lookup t m k ok).run P w = .ok v w then some (choose hx) else none
  | .map (some r) => (match h[r]? with
    | some o => if hx : ∃ v, ∀ w : World, w.heap[r]? = some o → (Instr.lookup t m k ok).run P w = .ok v w then some (choose hx) else none
    | none => none)
  | _ => none
open Classical in
/-- The value that a struct or an array literal makes, and a slice's part: no heap is asked. -/
noncomputable def pureRun (P : Program) (s : Sem Value) : Option Value :=
  if hx : ∃ v, ∀ w, s.run P w = .ok v w then some (choose hx) else none
theorem pureRun_eq {P : Program} {s : Sem Value} {v : Value} (h : ∀ w, s.run P w = .ok v w) : pureRun P s = some v := by
  have hx : ∃ v, ∀ w, s.run P w = .ok v w := ⟨v, h⟩
  unfold pureRun
  rw [dif_pos hx]
  have h1 := Classical.choose_spec hx default
  rw [h default] at h1
  cases h1
  rfl
theorem pureRun_run {P : Program} {s : Sem Value} {v : Value} (h : pureRun P s = some v) (w : World) : s.run P w = .ok v w := by
  unfold pureRun at h
  split at h
  · rename_i hx
    cases h
    exact Classical.choose_spec hx w
  · cases h

def unv (op : UnOp) (x : Value) : Option Value :=
  match op, x with
  | .not, .bool b => some (.bool (!b))
  | .neg, .int k n => some (.int k (k.wrap (0 - n)))
  | _, _ => none
noncomputable def bltv (P : Program) (b : Builtin) (argTypes : Array TypeId) (args : Array Value) (h : Heap) : Option Value :=
  match b with
  | .len => (match argTypes[0]?, args[0]? with | some t, some x => lenv P t x h | _, _ => none)
  | .min => pureRun P (Builtin.min_ argTypes 0 args)
  | .max => pureRun P (Builtin.max_ argTypes 0 args)
  | _ => none
noncomputable def qv (P : Program) (o : Op) (e : Env) (h : Heap) : Option Value :=
  match o with
  | .move x | .assign x => some (ev e x)
  | .pick c a b => (match ev e c with | .bool t => some (if t then ev e a else ev e b) | _ => none)
  | .load t x => (match ev e x with | .pointer (some ⟨b, off, none⟩) => loadv P t h b off | _ => none)
  | .nilCheck x => (match ev e x with | .pointer (some a) => some (.pointer (some a)) | .func (.func f) a b => some (.func (.func f) a b) | _ => none)
  | .binOp op t x y _ => binv P op t (ev e x) (ev e y)
  | .unOp op _ x => unv op (ev e x)
  | .fieldAddr s x f => fieldv P s (ev e x) f
  | .field s x f => partv P s (ev e x) f
  | .indexAddr t x i => idxv P t (ev e x) (ev e i)
  | .index t x i => elemv P t (ev e x) (ev e i)
  | .lookup t m k ok => lookv P t (ev e m) (ev e k) ok h
  | .extract t ix => (match ev e t with | .tuple vs => vs[ix]? | _ => none)
  | .convert src dst x => convv P src dst (ev e x) h
  | .slice t x lo hi mx => slicev P t (ev e x) (lo.map (ev e)) (hi.map (ev e)) (mx.map (ev e))
  | .makeFunc fn first captured => some (.func fn (first.map (ev e)) (captured.map (ev e)))
  | .build t parts => pureRun P (Instr.build t (parts.map fun (i, x) => (i, ev e x)))
  | .makeInterface t x => pureRun P (Instr.makeInterface t (ev e x))
  | .call { callee := .builtin b, args, argTypes } => bltv P b argTypes (args.map (ev e)) h
  | _ => none

theorem run_fieldPlace_of {P : Program} {fd : Field} {n : Nat} (h : sizeB P fd.type = some (n + 1)) (b off : Nat) (w : World) :
    (fieldPlace ⟨b, off, none⟩ fd).run P w = .ok ⟨b, off + fd.offset, none⟩ w := by
  unfold fieldPlace
  simp only [Sem.run_bind, run_sizeOf_of h, Result.andThen_ok, Nat.add_one_ne_zero, if_false, Sem.run_pure, Addr.add]
  split <;> simp_all
theorem addr_add (b off n : Nat) : Addr.add ⟨b, off, none⟩ n = ⟨b, off + n, none⟩ := by
  unfold Addr.add
  split <;> simp_all
theorem run_bytes_of {P : Program} (w : World) : ∀ (l : List Value) (bs : List UInt8), bytesv l = some bs → ∀ s : ByteArray,
    (forIn l s (fun (c : Value) (s : ByteArray) => (match c with
      | .int .u8 n => (pure (ForInStep.yield (s.push (UInt8.ofNat n.toNat))) : Sem (ForInStep ByteArray))
      | _ => do stuck "bytesToString: byte expected"; pure (ForInStep.yield s)))).run P w = .ok ⟨(s.data.toList ++ bs).toArray⟩ w
  | [], bs, h, s => by
    simp only [bytesv, Option.some.injEq] at h
    subst h
    simp
  | c :: l, bs, h, s => by
    unfold bytesv at h
    split at h
    · rename_i heq; cases heq
    · rename_i n l' heq
      cases heq
      simp only [Option.map_eq_some_iff] at h
      obtain ⟨bs', hb, rfl⟩ := h
      simp only [List.forIn_cons, Sem.run_bind, Sem.run_pure, Result.andThen_ok]
      rw [run_bytes_of w l bs' hb]
      simp [ByteArray.push]
    · cases h
theorem run_bytesToString_of {P : Program} {w : World} {b off len cap : Nat} {l : List Value} {bs : List UInt8} (hl : readN w.heap b off len = some l) (hb : bytesv l = some bs) :
    (Conv.bytesToString (.slice (some ⟨b, off, none⟩) len cap)).run P w = .ok (.string ⟨bs.toArray⟩) w := by
  unfold Conv.bytesToString
  simp only [Sem.run_bind, loadCells, run_loadCellsFrom (P := P) w b off len 0 l #[] (by simpa using hl), Result.andThen_ok]
  rw [← Array.forIn_toList]
  have h1 := run_bytes_of (P := P) w l bs hb ByteArray.empty
  have h2 : ((#[] : Array Value) ++ l.toArray).toList = l := by simp
  rw [h2]
  refine Eq.trans (congrArg (fun r => Result.andThen r _) h1) ?_
  simp only [Result.andThen_ok, Sem.run_pure]
  have h3 : ByteArray.empty.data.toList ++ bs = bs := rfl
  rw [h3]

theorem run_bnd_some {P : Program} {v : Value} {d top n : Nat} (h : bnd (some v) d top = some n) (code : BoundsCode) (w : World) : (Instr.sliceBound v top code).run P w = .ok n w := by
  unfold bnd at h
  split at h
  · rename_i heq; cases heq
  · rename_i k i heq
    cases heq
    split at h
    · rename_i hi
      cases h
      simp [Instr.sliceBound, asIntOf, hi]
    · cases h
  · cases h
theorem run_slice_of {P : Program} {t : TypeId} {x v : Value} {lo hi mx : Option Value} (h : slicev P t x lo hi mx = some v) (w : World) : (Instr.sliceAt t x lo hi mx).run P w = .ok v w := by
  unfold slicev at h
  split at h
  · rename_i s hu
    split at h
    · rename_i hh hb
      split at h
      · rename_i l hl
        cases h
        have e1 : (Instr.sliceBounds false s.size s.size lo hi none).run P w = .ok (l, hh, s.size) w := by
          unfold Instr.sliceBounds
          cases hi with
          | none =>
            simp only [bnd, Option.some.injEq] at hb
            subst hb
            cases lo with
            | none => simp only [bnd, Option.some.injEq] at hl; subst hl; simp
            | some lv => simp [run_bnd_some hl]
          | some hv =>
            cases lo with
            | none => simp only [bnd, Option.some.injEq] at hl; subst hl; simp [run_bnd_some hb]
            | some lv => simp [run_bnd_some hb, run_bnd_some hl]
        simp [Instr.sliceAt, Instr.slice, run_underlying hu, e1]
      · cases h
    · cases h
  · rename_i el a len cap hu
    have go : ∀ l hh m sz, (Instr.sliceBounds true len cap lo hi mx).run P w = .ok (l, hh, m) w → sizeB P el = some sz →
        (Instr.sliceAt t (.slice a len cap) lo hi mx).run P w = .ok (.slice (if m = l then a else a.map (·.add (l * sz))) (hh - l) (m - l)) w := by
      intro l hh m sz e1 hs
      simp [Instr.sliceAt, Instr.slice, run_underlying hu, e1, run_sizeOf_of hs]
    split at h
    · rename_i m sz hm hs
      split at h
      · cases h
      · rename_i hmx
        have hmx' : mx = none := by cases mx <;> simp_all
        subst hmx'
        simp only [bnd, Option.some.injEq] at hm
        subst hm
        split at h
        · rename_i l hl
          cases h
          refine go l len cap sz ?_ hs
          unfold Instr.sliceBounds
          cases lo with
          | none => simp only [bnd, Option.some.injEq] at hl; subst hl; simp
          | some lv => simp [run_bnd_some hl]
        · cases h
    · rename_i hv m sz hm hs
      split at h
      · rename_i hh hb
        split at h
        · rename_i l hl
          cases h
          refine go l hh m sz ?_ hs
          unfold Instr.sliceBounds
          cases mx with
          | none =>
            simp only [bnd, Option.some.injEq] at hm
            subst hm
            cases lo with
            | none => simp only [bnd, Option.some.injEq] at hl; subst hl; simp [run_bnd_some hb]
            | some lv => simp [run_bnd_some hb, run_bnd_some hl]
          | some mv =>
            cases lo with
            | none => simp only [bnd, Option.some.injEq] at hl; subst hl; simp [run_bnd_some hm, run_bnd_some hb]
            | some lv => simp [run_bnd_some hm, run_bnd_some hb, run_bnd_some hl]
        · cases h
      · cases h
    · cases h
  · cases h
theorem run_lookv_of {P : Program} {t : TypeId} {m k v : Value} {ok : Bool} {w : World} (h : lookv P t m k ok w.heap = some v) : (Instr.lookup t m k ok).run P w = .ok v w := by
  unfold lookv at h
  split at h
  · split at h
    · rename_i hx; cases h; exact Classical.choose_spec hx w
    · cases h
  · split at h
    · rename_i o ho
      split at h
      · rename_i hx; cases h; exact Classical.choose_spec hx w ho
      · cases h
    · cases h
  · cases h
theorem lookv_eq {P : Program} {t : TypeId} {r : Nat} {k v : Value} {ok : Bool} {h : Heap} {o : Obj} (ho : h[r]? = some o)
    (hrun : ∀ w : World, w.heap[r]? = some o → (Instr.lookup t (.map (some r)) k ok).run P w = .ok v w) : lookv P t (.map (some r)) k ok h = some v := by
  have hx : ∃ v, ∀ w : World, w.heap[r]? = some o → (Instr.lookup t (.map (some r)) k ok).run P w = .ok v w := ⟨v, hrun⟩
  unfold lookv
  simp only [ho, dif_pos hx]
  have h1 := Classical.choose_spec hx { (default : World) with heap := h } ho
  rw [hrun _ ho] at h1
  cases h1
  rfl
theorem lookv_nil {P : Program} {t : TypeId} {k v : Value} {ok : Bool} {h : Heap}
    (hrun : ∀ w : World, (Instr.lookup t (.map none) k ok).run P w = .ok v w) : lookv P t (.map none) k ok h = some v := by
  have hx : ∃ v, ∀ w : World, (Instr.lookup t (.map none) k ok).run P w = .ok v w := ⟨v, hrun⟩
  unfold lookv
  simp only [dif_pos hx]
  have h1 := Classical.choose_spec hx default
  rw [hrun] at h1
  cases h1
  rfl

/-- WHAT 'qv' SAYS, THE MACHINE DOES. -/
theorem qv_run {P : Program} {o : Op} {ty : TypeId} {e : Env} {v : Value} {w : World} (h : qv P o e w.heap = some v) :
    (execOp (ev e) { (default : Oper) with op := o, type := ty }).run P w = .ok (.value v) w := by
  unfold qv at h
  split at h
  · cases h; rfl
  · cases h; rfl
  · split at h
    · rename_i b hb
      cases h
      simp [execOp, hb, asBool]
    · cases h
  · split at h
    · rename_i b off hx
      simp [execOp, hx, Instr.loadAt, Instr.sureAddr, run_loadVar_of h]
    · cases h
  · split at h
    · rename_i hx; cases h; simp [execOp, hx]
    · rename_i hx; cases h; simp [execOp, hx]
    · cases h
  · rename_i op t x y ty'
    have := run_binv_of h x y w
    simp only [execOp, Sem.run_bind] at this ⊢
    rw [this]
    simp
  · unfold unv at h
    split at h
    · rename_i hx; cases h; simp [execOp, hx, Op.unary]
    · rename_i hx; cases h; simp [execOp, hx, Op.unary, Op.intArith]
    · cases h
  · rename_i s x f
    unfold fieldv at h
    split at h
    · rename_i fs b off hu hx
      split at h
      · rename_i fd hf
        split at h
        · rename_i n hs
          cases h
          simp [execOp, hx, Instr.fieldAt, Instr.sureAddr, run_underlying hu, hf, run_fieldPlace_of hs]
        · cases h
      · cases h
    · cases h
  · rename_i s x f
    unfold partv at h
    split at h
    · rename_i fs cs hu hx
      split at h
      · rename_i fd hf
        simp [execOp, hx, Instr.field, run_underlying hu, hf, asAgg, run_part_of h]
      · cases h
    · cases h
  · rename_i t x i
    unfold idxv at h
    split at h
    · rename_i el b off len cap k n hu hx hi
      split at h
      · rename_i sz hs
        split at h
        · rename_i hn
          cases h
          simp [execOp, hx, hi, Instr.indexAt, asIntOf, run_underlying hu, hn, run_sizeOf_of hs, addr_add]
        · cases h
      · cases h
    · rename_i len el b off k n hu hx hi
      split at h
      · rename_i sz hs
        split at h
        · rename_i hn
          cases h
          simp [execOp, hx, hi, Instr.indexAt, Instr.sureAddr, asIntOf, run_underlying hu, hn, run_sizeOf_of hs, addr_add]
        · cases h
      · cases h
    · cases h
  · rename_i t x i
    unfold elemv at h
    split at h
    · rename_i len el cs k n hu hx hi
      split at h
      · rename_i sz hs
        split at h
        · rename_i hn
          simp [execOp, hx, hi, Instr.index, asIntOf, run_underlying hu, hn, run_sizeOf_of hs, run_part_of h]
        · cases h
      · cases h
    · rename_i s k n hu hx hi
      split at h
      · rename_i hn
        simp only [Option.map_eq_some_iff] at h
        obtain ⟨b, hb, rfl⟩ := h
        simp [execOp, hx, hi, Instr.index, asIntOf, run_underlying hu, hn, hb]
      · cases h
    · cases h
  · rename_i t m k ok
    simp [execOp, run_lookv_of h]
  · rename_i t ix
    split at h
    · rename_i vs hx
      simp [execOp, hx, Instr.extract, h]
    · cases h
  · rename_i src dst x
    unfold convv at h
    split at h
    · rename_i hs hd hx; cases h; simp [execOp, convert, hx, run_underlying hs, run_underlying hd, Conv.intToInt]
    · rename_i hs hd hx; cases h; simp [execOp, convert, hx, run_underlying hs, run_underlying hd]
    · rename_i el b off len cap hs hd hx
      split at h
      · rename_i he
        split at h
        · rename_i l hl
          simp only [Option.map_eq_some_iff] at h
          obtain ⟨bs, hb, rfl⟩ := h
          simp [execOp, convert, hx, run_underlying hs, run_underlying hd, run_underlying he, run_bytesToString_of hl hb]
        · cases h
      · cases h
    · cases h
  · rename_i t x lo hi mx
    simp [execOp, run_slice_of h]
  · cases h; simp [execOp, Instr.makeFunc]
  · rename_i t parts
    simp only [execOp, Sem.run_bind]
    rw [pureRun_run h]
    simp
  · rename_i t x
    simp [execOp, pureRun_run h]
  · rename_i b args argTypes
    unfold bltv at h
    split at h
    · split at h
      · rename_i t x ht hx'
        unfold lenv at h
        split at h
        · rename_i hu; cases h; simp [execOp, resolve, invoke, builtin, Builtin.len_, ht, hx', run_underlying hu, goInt]
        · rename_i hu; cases h; simp [execOp, resolve, invoke, builtin, Builtin.len_, ht, hx', run_underlying hu, goInt]
        · rename_i hu; cases h; simp [execOp, resolve, invoke, builtin, Builtin.len_, ht, hx', run_underlying hu, goInt]
        · rename_i r hu
          split at h
          · rename_i es clock hr
            cases h
            have hg : (getObj r).run P w = .ok (.map es clock) w := by simp [getObj, Sem.run, hr]
            simp [execOp, resolve, invoke, builtin, Builtin.len_, ht, hx', run_underlying hu, goInt, hg]
          · cases h
        · cases h
      · cases h
    · simp only [execOp, resolve, invoke, builtin, Sem.run_bind, Sem.run_pure, Result.andThen_ok]
      rw [show (Builtin.min_ _ ty _).run P w = _ from pureRun_run h w]
      simp
    · simp only [execOp, resolve, invoke, builtin, Sem.run_bind, Sem.run_pure, Result.andThen_ok]
      rw [show (Builtin.max_ _ ty _).run P w = _ from pureRun_run h w]
      simp
    · cases h
  · cases h
theorem qv_Q {P : Program} {o : Op} {ty : TypeId} {e : Env} {h : Heap} {v : Value} (hq : qv P o e h = some v) : QOp P o ty e h v := by
  refine ⟨?_, ?_, fun w hw => qv_run (hw ▸ hq)⟩
  · cases o <;> first | rfl | (simp [qv] at hq; done)
  · cases o <;> first | rfl | (simp [qv] at hq; done)
end GL
