import Derived.Maps.OwnSet
import Derived.StringKeys
import Derived.WalkKit
namespace Go.Proofs.Qxb6600473aMods.SMap
open Go Go.RowKit
open Go.Maps (Keyed)
open Go.WideMaps (keyOf_string_mk)

/-- an element as it stands: no reading at all -/
def tok (v : Value) : Option (DataW Value × List MemPlace) := some (.held v, [])

/-- BLOCK b IS A MAP KEYED BY STRINGS, of at most n entries: at the key s it holds F s -/
def SMap (P : Program) (k : TypeId) (w : World) (b n : Nat) (F : ByteArray → Option Value) : Prop :=
  ∃ D : DataW Value, w.ownsMap P k tok b n D ∧ ∀ s : ByteArray, (∀ v, F s = some v → Maps.has D (.string s.data.toList) = true ∧ ∀ z, D.atKey (.string s.data.toList) z = .held v) ∧ (F s = none → Maps.has D (.string s.data.toList) = false)

section
variable {P : Program} {k : TypeId} {w : World} {b n : Nat} {F : ByteArray → Option Value}

theorem made (w : World) (P : Program) (k : TypeId) : SMap P k (w.alloc (.map #[] 0)) w.heap.size 0 (fun _ => none) :=
  ⟨.map [], World.ownsMap_made w P k tok, fun s => ⟨fun v h => by simp at h, fun _ => rfl⟩⟩

theorem lt (h : SMap P k w b n F) : b < w.heap.size := by
  obtain ⟨D, h1, _⟩ := h; exact h1.lt

theorem kept {w' : World} {row : Option Nat} (h : SMap P k w b n F) (hg : w.grownBy w' row) (hne : some b ≠ row) : SMap P k w' b n F := by
  obtain ⟨D, h1, h2⟩ := h; exact ⟨D, h1.kept hg hne, h2⟩

theorem ofBlock {w' : World} (h : SMap P k w b n F) (he : w'.heap[b]? = w.heap[b]?) : SMap P k w' b n F := by
  obtain ⟨D, ⟨es, clock, hb, r⟩, h2⟩ := h; exact ⟨D, ⟨es, clock, he.trans hb, r⟩, h2⟩

theorem below {w' : World} {B : Nat} (h : SMap P k w b n F) (hb : Below B w w') (hlt : b < B) : SMap P k w' b n F := ofBlock h (hb.block b hlt)

theorem congr {F' : ByteArray → Option Value} (h : SMap P k w b n F) (he : ∀ s, F' s = F s) : SMap P k w b n F' := by
  have : F' = F := funext he
  rw [this]; exact h

theorem mono {n' : Nat} (h : SMap P k w b n F) (hn : n ≤ n') : SMap P k w b n' F := by
  obtain ⟨D, h1, h2⟩ := h; exact ⟨D, h1.mono hn, h2⟩

theorem ext {s s' : ByteArray} (h : s.data.toList = s'.data.toList) : s = s' := by
  cases s; cases s'
  simp at h
  subst h
  rfl

theorem update {t e : TypeId} (h : SMap P k w b n F) (K : Keyed P k) (hk : P.underlying k = some .string) (ht : P.underlying t = some (.map k e)) (hn : n < maxLen) {s : ByteArray} (hs : s.size ≤ maxLen) (val : Value) :
    ∃ w', (Instr.mapUpdate t (.map (some b)) (.string s) val).run P w = .ok () w' ∧ SMap P k w' b (n + 1) (fun x => if x = s then some val else F x) ∧ w.grownBy w' (some b) := by
  obtain ⟨D, h1, h2⟩ := h
  obtain ⟨w', hr, ho, hg⟩ := h1.update K ht hn (keyOf_string_mk hk hs) (show tok val = some (.held val, []) from rfl)
  refine ⟨w', hr, ⟨_, ho, fun x => ?_⟩, hg⟩
  have hm := h1.isMap
  have hkl : WideAt.IsKeyLit (Lit.string s.data.toList) := K.key (keyOf_string_mk hk hs)
  by_cases hx : x = s
  · subst hx
    refine ⟨fun v hv => ?_, fun hv => by simp at hv⟩
    simp at hv
    subst hv
    exact ⟨Maps.has_put_same hm hkl _, fun z => Maps.atKey_put_same hm hkl _ z⟩
  · have hne : Lit.string x.data.toList ≠ Lit.string s.data.toList := fun e => hx (ext (by simpa using e))
    obtain ⟨p1, p2⟩ := h2 x
    refine ⟨fun v hv => ?_, fun hv => ?_⟩
    · simp [hx] at hv
      exact ⟨by rw [Maps.has_put_other hne]; exact (p1 v hv).1, fun z => by rw [Maps.atKey_put_other hne]; exact (p1 v hv).2 z⟩
    · simp [hx] at hv
      rw [Maps.has_put_other hne]; exact p2 hv

theorem look_ok {t e : TypeId} (h : SMap P k w b n F) (K : Keyed P k) (hk : P.underlying k = some .string) (ht : P.underlying t = some (.map k e)) {z : Value} (hz : (zeroValue e).run P w = .ok z w) {s : ByteArray} (hs : s.size ≤ maxLen) :
    (Instr.lookup t (.map (some b)) (.string s) true).run P w = .ok (.tuple #[(F s).getD z, .bool (F s).isSome]) w := by
  obtain ⟨D, h1, h2⟩ := h
  obtain ⟨v, ps, hr, hv⟩ := h1.look_ok K ht hz (zd := .held z) (zp := []) rfl (keyOf_string_mk hk hs)
  obtain ⟨p1, p2⟩ := h2 s
  have hv' : DataW.held v = D.atKey (.string s.data.toList) (.held z) := by
    have := hv; simp [tok] at this; exact this.1
  cases hF : F s with
  | some u =>
    obtain ⟨q1, q2⟩ := p1 u hF
    rw [q2] at hv'
    rw [hr, q1]
    simp at hv'
    simp [hv']
  | none =>
    have q := p2 hF
    rw [Maps.atKey_of_not_has q] at hv'
    rw [hr, q]
    simp at hv'
    simp [hv']

theorem look {t e : TypeId} (h : SMap P k w b n F) (K : Keyed P k) (hk : P.underlying k = some .string) (ht : P.underlying t = some (.map k e)) {z : Value} (hz : (zeroValue e).run P w = .ok z w) {s : ByteArray} (hs : s.size ≤ maxLen) :
    (Instr.lookup t (.map (some b)) (.string s) false).run P w = .ok ((F s).getD z) w := by
  obtain ⟨D, h1, h2⟩ := h
  obtain ⟨v, ps, hr, hv⟩ := h1.lookup K ht hz (zd := .held z) (zp := []) rfl (keyOf_string_mk hk hs)
  obtain ⟨p1, p2⟩ := h2 s
  have hv' : DataW.held v = D.atKey (.string s.data.toList) (.held z) := by
    have := hv; simp [tok] at this; exact this.1
  cases hF : F s with
  | some u =>
    rw [(p1 u hF).2] at hv'
    simp at hv'
    rw [hr, hv']; rfl
  | none =>
    rw [Maps.atKey_of_not_has (p2 hF)] at hv'
    simp at hv'
    rw [hr, hv']; rfl
end

section
variable {P : Program} (w : World) {ops : Array Oper} {rest : List Oper} {o : Oper} {a : Act} {Q : Exit → Act → World → Prop}

theorem wpList_update (hg : o.guard = none) (m x v : Operand) (t : TypeId) (hop : o.op = Op.mapUpdate t m x v)
    (k e : TypeId) (K : Keyed P k) (hk : P.underlying k = some .string) (ht : P.underlying t = some (.map k e)) (b n : Nat) (F : ByteArray → Option Value)
    (hm : a.eval m = .map (some b)) (hown : SMap P k w b n F) (hn : n < maxLen) (s : ByteArray) (val : Value) (hx : a.eval x = .string s) (hv : a.eval v = val) (hs : s.size ≤ maxLen)
    (hK : ∀ w', SMap P k w' b (n + 1) (fun x => if x = s then some val else F x) → w.grownBy w' (some b) → wpList P ops Q rest (a.put o.dst undef) w') :
    wpList P ops Q (o :: rest) a w := by
  refine wpList_plain hg fun K' hK' => ?_
  obtain ⟨w', hrun, r1, r2⟩ := update hown K hk ht hn hs val
  unfold Oper.wp
  simp [execOp, hop, hm, hx, hv, hrun, Result.andThen]
  exact hK' _ _ (hK w' r1 r2)

theorem wpList_look_ok (hg : o.guard = none) (m x : Operand) (t : TypeId) (hop : o.op = Op.lookup t m x true)
    (k e : TypeId) (K : Keyed P k) (hk : P.underlying k = some .string) (ht : P.underlying t = some (.map k e)) (z : Value) (hz : (zeroValue e).run P w = .ok z w) (b n : Nat) (F : ByteArray → Option Value)
    (hm : a.eval m = .map (some b)) (hown : SMap P k w b n F) (s : ByteArray) (hx : a.eval x = .string s) (hs : s.size ≤ maxLen)
    (u : Value) (y : Bool) (hu : (F s).getD z = u) (hy : (F s).isSome = y)
    (hK : wpList P ops Q rest (a.put o.dst (.tuple #[u, .bool y])) w) :
    wpList P ops Q (o :: rest) a w := by
  refine wpList_plain hg fun K' hK' => ?_
  have hrun := look_ok hown K hk ht hz hs
  subst hu
  subst hy
  unfold Oper.wp
  simp [execOp, hop, hm, hx, hrun, Result.andThen]
  exact hK' _ _ hK

theorem wpList_look (hg : o.guard = none) (m x : Operand) (t : TypeId) (hop : o.op = Op.lookup t m x false)
    (k e : TypeId) (K : Keyed P k) (hk : P.underlying k = some .string) (ht : P.underlying t = some (.map k e)) (z : Value) (hz : (zeroValue e).run P w = .ok z w) (b n : Nat) (F : ByteArray → Option Value)
    (hm : a.eval m = .map (some b)) (hown : SMap P k w b n F) (s : ByteArray) (hx : a.eval x = .string s) (hs : s.size ≤ maxLen)
    (u : Value) (hu : (F s).getD z = u)
    (hK : wpList P ops Q rest (a.put o.dst u) w) :
    wpList P ops Q (o :: rest) a w := by
  refine wpList_plain hg fun K' hK' => ?_
  have hrun := look hown K hk ht hz hs
  subst hu
  unfold Oper.wp
  simp [execOp, hop, hm, hx, hrun, Result.andThen]
  exact hK' _ _ hK
end
end Go.Proofs.Qxb6600473aMods.SMap
