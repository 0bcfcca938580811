/-
  DERIVED. The text of some pairs; it decodes.
-/
import Derived.Test.YbulkegqeSelWord
namespace Go.Proofs.Ybulkegqe.lawS6647AWhole
set_option linter.unusedVariables false
set_option linter.unusedSimpArgs false

def le4 (n : Nat) : Str := [UInt8.ofNat n, UInt8.ofNat (n / 256), UInt8.ofNat (n / 65536), UInt8.ofNat (n / 16777216)]
def body (L : List (Str × Str)) : Str := L.flatMap (fun p => p.1 ++ p.2)
def offs : Nat → List (Str × Str) → List Nat
  | _, [] => []
  | s, p :: L => (s + p.1.length) :: (s + p.1.length + p.2.length) :: offs (s + p.1.length + p.2.length) L
/-- The text of the pairs L. -/
def encT (L : List (Str × Str)) : Str := match L with
  | [] => []
  | p :: M => le4 (p :: M).length ++ (offs (4 * (1 + 2 * (p :: M).length)) (p :: M)).flatMap le4 ++ body (p :: M)

theorem gflat_len {α β : Type} (f : α → List β) (c : Nat) (hf : ∀ a, (f a).length = c) : ∀ S : List α, (S.flatMap f).length = S.length * c
  | [] => by simp
  | a :: S => by rw [List.flatMap_cons, List.length_append, hf, gflat_len f c hf S, List.length_cons, Nat.add_mul]; omega
theorem gflat_get {α β : Type} (f : α → List β) (c : Nat) (hf : ∀ a, (f a).length = c) : ∀ (S : List α) (i j : Nat) (a : α), S[i]? = some a → j < c → (S.flatMap f)[i * c + j]? = (f a)[j]?
  | [], i, j, a, h, _ => by simp at h
  | b :: S, 0, j, a, h, hj => by
    simp at h
    subst h
    rw [List.flatMap_cons, Nat.zero_mul, Nat.zero_add, List.getElem?_append_left (by rw [hf]; exact hj)]
  | b :: S, i + 1, j, a, h, hj => by
    simp only [List.getElem?_cons_succ] at h
    rw [List.flatMap_cons, List.getElem?_append_right (by rw [hf, Nat.add_mul]; omega), hf, show (i + 1) * c + j - c = i * c + j by rw [Nat.add_mul]; omega]
    exact gflat_get f c hf S i j a h hj

theorem word_at (ws : List Nat) (B : Str) (i x : Nat) (hi : ws[i]? = some x) (hx : x < 4294967296) : wordOf (ws.flatMap le4 ++ B) i = x := by
  have hlt := (List.getElem?_eq_some_iff.1 hi).1
  have e : ∀ j, j < 4 → (ws.flatMap le4 ++ B).getD (4 * i + j) 0 = (le4 x).getD j 0 := fun j hj => by
    rw [List.getD, List.getD, List.getElem?_append_left (by rw [gflat_len le4 4 (fun _ => rfl)]; omega), Nat.mul_comm, gflat_get le4 4 (fun _ => rfl) ws i j x hi hj]
  unfold wordOf
  rw [show (4 * i : Nat) = 4 * i + 0 from rfl, e 0 (by decide), e 1 (by decide), e 2 (by decide), e 3 (by decide)]
  simp only [le4, List.getD, List.getElem?_cons_zero, List.getElem?_cons_succ, Option.getD_some, UInt8.toNat_ofNat']
  omega

theorem offs_len : ∀ (s : Nat) (L : List (Str × Str)), (offs s L).length = 2 * L.length
  | _, [] => rfl
  | s, p :: L => by simp only [offs, List.length_cons, offs_len _ L]; omega
theorem offs_at : ∀ (s : Nat) (L : List (Str × Str)) (i : Nat) (p : Str × Str), L[i]? = some p →
    (offs s L)[2 * i]? = some (s + (body (L.take i)).length + p.1.length) ∧ (offs s L)[2 * i + 1]? = some (s + (body (L.take i)).length + p.1.length + p.2.length)
  | s, [], i, p, h => by simp at h
  | s, q :: L, 0, p, h => by
    simp at h
    subst h
    simp [offs, body]
  | s, q :: L, i + 1, p, h => by
    simp only [List.getElem?_cons_succ] at h
    obtain ⟨h1, h2⟩ := offs_at (s + q.1.length + q.2.length) L i p h
    have e : (body ((q :: L).take (i + 1))).length = q.1.length + q.2.length + (body (L.take i)).length := by simp [body]; omega
    rw [e]
    constructor
    · rw [show 2 * (i + 1) = 2 * i + 1 + 1 by omega]
      simp only [offs, List.getElem?_cons_succ]
      rw [h1]
      congr 1
      omega
    · rw [show 2 * (i + 1) + 1 = 2 * i + 1 + 1 + 1 by omega]
      simp only [offs, List.getElem?_cons_succ]
      rw [h2]
      congr 1
      omega
theorem body_split {L : List (Str × Str)} {i : Nat} {p : Str × Str} (h : L[i]? = some p) : body L = body (L.take i) ++ p.1 ++ p.2 ++ body (L.drop (i + 1)) := by
  have hlt := (List.getElem?_eq_some_iff.1 h).1
  have e : L = L.take i ++ p :: L.drop (i + 1) := by
    have h2 := (List.getElem?_eq_some_iff.1 h).2
    rw [← h2, ← List.drop_eq_getElem_cons hlt, List.take_append_drop]
  rw [e]
  have h3 : (L.take i ++ p :: L.drop (i + 1)).take i = L.take i := by rw [← e]
  have h4 : (L.take i ++ p :: L.drop (i + 1)).drop (i + 1) = L.drop (i + 1) := by rw [← e]
  rw [h3, h4]
  simp [body]

theorem extract_list (T : Str) (a b : Nat) : (⟨T.toArray⟩ : ByteArray).extract a b = ⟨((T.drop a).take (b - a)).toArray⟩ := by
  apply ByteArray.ext
  rw [ByteArray.data_extract]
  simp [List.extract_toArray, List.extract_eq_take_drop]

theorem take_body_le {L : List (Str × Str)} {i : Nat} {p : Str × Str} (h : L[i]? = some p) : (body (L.take i)).length + p.1.length + p.2.length ≤ (body L).length := by
  rw [body_split h]
  simp only [List.length_append]
  omega

theorem encT_txt (L : List (Str × Str)) (hn : L.length ≤ 1000) (hb : (body L).length ≤ 100000) : Txt (encT L) L := by
  cases L with
  | nil => exact ⟨by simp [encT], fun _ => rfl, fun h => absurd rfl h, by simp, fun i p h => by simp at h⟩
  | cons p0 M =>
    obtain ⟨L, hL⟩ : ∃ L, L = p0 :: M := ⟨_, rfl⟩
    have eT : encT (p0 :: M) = (L.length :: offs (4 * (1 + 2 * L.length)) L).flatMap le4 ++ body L := by rw [hL]; rfl
    rw [eT, ← hL]
    rw [← hL] at hn hb
    have hne : L ≠ [] := by rw [hL]; simp
    have hpos : 0 < L.length := by rw [hL]; simp
    obtain ⟨ws, hws⟩ : ∃ ws, ws = L.length :: offs (4 * (1 + 2 * L.length)) L := ⟨_, rfl⟩
    have hwl : ws.length = 1 + 2 * L.length := by rw [hws, List.length_cons, offs_len]; omega
    rw [← hws]
    have hhl : (ws.flatMap le4).length = 4 * (1 + 2 * L.length) := by rw [gflat_len le4 4 (fun _ => rfl), hwl]; omega
    have hTl : (ws.flatMap le4 ++ body L).length = 4 * (1 + 2 * L.length) + (body L).length := by rw [List.length_append, hhl]
    have hw0 : ws[0]? = some L.length := by rw [hws]; rfl
    refine ⟨by rw [hTl]; omega, fun h => absurd h hne, fun _ => ⟨by rw [hTl]; omega, word_at ws _ 0 _ hw0 (by omega)⟩, by omega, fun i p hi => ?_⟩
    have hil := (List.getElem?_eq_some_iff.1 hi).1
    obtain ⟨o1, o2⟩ := offs_at (4 * (1 + 2 * L.length)) L i p hi
    have hle := take_body_le hi
    have e1 : wordOf (ws.flatMap le4 ++ body L) (1 + 2 * i) = 4 * (1 + 2 * L.length) + (body (L.take i)).length + p.1.length :=
      word_at ws _ _ _ (by rw [hws, show 1 + 2 * i = 2 * i + 1 by omega]; exact o1) (by omega)
    have e2 : wordOf (ws.flatMap le4 ++ body L) (2 + 2 * i) = 4 * (1 + 2 * L.length) + (body (L.take i)).length + p.1.length + p.2.length :=
      word_at ws _ _ _ (by rw [hws, show 2 + 2 * i = 2 * i + 1 + 1 by omega]; exact o2) (by omega)
    have e0 : (if i = 0 then 4 * (1 + 2 * L.length) else wordOf (ws.flatMap le4 ++ body L) (2 * i)) = 4 * (1 + 2 * L.length) + (body (L.take i)).length := by
      by_cases h0 : i = 0
      · subst h0
        simp [body]
      · rw [if_neg h0]
        obtain ⟨k, rfl⟩ : ∃ k, i = k + 1 := ⟨i - 1, by omega⟩
        have hk : k < L.length := by omega
        obtain ⟨q, hq⟩ : ∃ q, L[k]? = some q := ⟨L[k], by simp [hk]⟩
        obtain ⟨_, q2⟩ := offs_at (4 * (1 + 2 * L.length)) L k q hq
        have hb2 : (body (L.take (k + 1))).length = (body (L.take k)).length + q.1.length + q.2.length := by
          rw [List.take_add_one, hq]
          simp [body]
          omega
        have := take_body_le hq
        rw [hb2]
        refine word_at ws _ _ _ ?_ (by omega)
        rw [hws, show 2 * (k + 1) = 2 * k + 1 + 1 by omega, List.getElem?_cons_succ, q2]
        congr 1
        omega
    rw [e0, e1, e2]
    refine ⟨by rw [hTl]; omega, by omega, by omega, by rw [hTl]; omega, ?_, ?_⟩
    · rw [extract_list, show 4 * (1 + 2 * L.length) + (body (L.take i)).length + p.1.length - (4 * (1 + 2 * L.length) + (body (L.take i)).length) = p.1.length by omega]
      congr 1
      rw [body_split hi, List.append_assoc, List.append_assoc, ← List.append_assoc (ws.flatMap le4), List.drop_left' (by rw [List.length_append, hhl]), List.take_left' rfl]
    · rw [extract_list, show 4 * (1 + 2 * L.length) + (body (L.take i)).length + p.1.length + p.2.length - (4 * (1 + 2 * L.length) + (body (L.take i)).length + p.1.length) = p.2.length by omega]
      congr 1
      rw [body_split hi, List.append_assoc, ← List.append_assoc (ws.flatMap le4), ← List.append_assoc (ws.flatMap le4), List.drop_left' (by simp only [List.length_append, hhl]), List.take_left' rfl]

end Go.Proofs.Ybulkegqe.lawS6647AWhole
