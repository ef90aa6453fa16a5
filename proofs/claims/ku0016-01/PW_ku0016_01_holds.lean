import PyProof.Rows.All
import Wide.All
import OpenK.AllK
import Wide.FinOn
import Lean
import PySem.Challenge.RW_ku0016_01
open PySem PySem.W PyProof.Rows PySem.Calls PySem.Spec
set_option Elab.async false
set_option linter.all false
set_option maxRecDepth 100000
local macro_rules | `(tactic| omega) => `(tactic| lia)
set_option maxHeartbeats 8000000
namespace Mine
theorem exE {α : Sort _} {p : α → Prop} {c : Prop} (h : ∃ x, p x) (k : ∀ x, p x → c) : c := Exists.elim h k
theorem anE {a b c : Prop} (h : a ∧ b) (k : a → b → c) : c := k h.1 h.2
theorem nameE {α : Sort _} {a : α} {c : Prop} (k : ∀ x, x = a → c) : c := k a rfl
theorem oLe {a b c : Nat} (h : a ≤ b) (e : Nat.ble b c = true) : a ≤ c := Nat.le_trans h (Nat.le_of_ble_eq_true e)
theorem oLt {a b c : Nat} (h : a ≤ b) (e : Nat.ble (b + 1) c = true) : a < c := Nat.lt_of_le_of_lt h (Nat.le_of_ble_eq_true e)
theorem oLtL {a b c : Nat} (h : a < b) (e : Nat.ble b c = true) : a < c := Nat.lt_of_lt_of_le h (Nat.le_of_ble_eq_true e)
theorem oLeL {a b c : Nat} (h : a < b) (e : Nat.ble b c = true) : a ≤ c := Nat.le_of_lt (oLtL h e)
theorem oDp {a b c r : Nat} (h : a + c < r) (e : Nat.ble b c = true) : a + b < r := Nat.lt_of_le_of_lt (Nat.add_le_add_left (Nat.le_of_ble_eq_true e) a) h
theorem oDq {a b c d r : Nat} (h : a + c < r) (e : Nat.ble (d + b) c = true) : a + d + b < r := Nat.add_assoc a d b ▸ oDp h e
theorem oD0 {a c r : Nat} (h : a + c < r) : a < r := Nat.lt_of_le_of_lt (Nat.le_add_right a c) h
theorem oIlt {a b : Nat} {c : Int} (h : a ≤ b) (e : decide ((b : Int) < c) = true) : (a : Int) < c := Int.lt_of_le_of_lt (Int.ofNat_le.mpr h) (of_decide_eq_true e)
theorem oIltL {a b : Nat} {c : Int} (h : a < b) (e : decide ((b : Int) ≤ c) = true) : (a : Int) < c := Int.lt_of_lt_of_le (Int.ofNat_lt.mpr h) (of_decide_eq_true e)
theorem oIle {a b : Nat} {c : Int} (h : a ≤ b) (e : decide ((b : Int) ≤ c) = true) : (a : Int) ≤ c := Int.le_trans (Int.ofNat_le.mpr h) (of_decide_eq_true e)
theorem oN1 {a : Nat} {c : Int} (e : decide (c < 0) = true) : c < (a : Int) := Int.lt_of_lt_of_le (of_decide_eq_true e) (Int.natCast_nonneg a)
theorem oN2 {a : Nat} {c : Int} (e : decide (c ≤ 0) = true) : c ≤ (a : Int) := Int.le_trans (of_decide_eq_true e) (Int.natCast_nonneg a)
theorem oNe {a b : Nat} (e : Nat.ble 1 b = true) : a + b ≠ a := Nat.ne_of_gt (Nat.lt_add_of_pos_right (Nat.le_of_ble_eq_true e))
theorem foldA {α : Type} {M : Model} {A : Around} {t : Sem α} {Q : α → Shared → Prop} {E : Value → Shared → Prop} {s : Shared} (k : let a := A; wpAny M a t Q E s) : wpAny M A t Q E s := k
theorem foldQE {α : Type} {M : Model} {A : Around} {t : Sem α} {Q : α → Shared → Prop} {E : Value → Shared → Prop} {s : Shared} (k : let q := Q; let e := E; wpAny M A t q e s) : wpAny M A t Q E s := k
theorem foldM {h₀ h : Heap} {L : Addr} {m : Str → Option Value} {c : Prop} (F : Fr h₀ L h m) (k : let m' := m; Fr h₀ L h m' → c) : c := k F
theorem foldG {c : Prop} (k : let g := c; g) : c := k
theorem tq2 {α β : Type _} {P : α × β → Prop} (h : ∀ a b, P (a, b)) : ∀ x, P x := fun (a, b) => h a b
theorem tq3 {α β γ : Type _} {P : α × β × γ → Prop} (h : ∀ a b c, P (a, b, c)) : ∀ x, P x := fun (a, b, c) => h a b c
theorem tq4 {α β γ δ : Type _} {P : α × β × γ × δ → Prop} (h : ∀ a b c d, P (a, b, c, d)) : ∀ x, P x := fun (a, b, c, d) => h a b c d
theorem tq5 {α β γ δ ε : Type _} {P : α × β × γ × δ × ε → Prop} (h : ∀ a b c d e, P (a, b, c, d, e)) : ∀ x, P x := fun (a, b, c, d, e) => h a b c d e
theorem tq6 {α β γ δ ε ζ : Type _} {P : α × β × γ × δ × ε × ζ → Prop} (h : ∀ a b c d e f, P (a, b, c, d, e, f)) : ∀ x, P x := fun (a, b, c, d, e, f) => h a b c d e f
theorem sN {α : Type _} {L : List α} : ∀ p ∈ ([] : List α), p ∈ L := fun _ h => nomatch h
theorem sC {α : Type _} {a : α} {l L : List α} (h : a ∈ L) (k : ∀ p ∈ l, p ∈ L) : ∀ p ∈ a :: l, p ∈ L := List.forall_mem_cons.mpr ⟨h, k⟩
theorem sA {α : Type _} {l l' L : List α} (h : ∀ p ∈ l, p ∈ L) (k : ∀ p ∈ l', p ∈ L) : ∀ p ∈ l ++ l', p ∈ L := List.forall_mem_append.mpr ⟨h, k⟩
noncomputable def Has (m : Str → Option Value) (l : List (Str × Value)) : Prop := ∀ p ∈ l, m p.1 = some p.2
theorem kN {m : Str → Option Value} : Has m [] := fun _ h => nomatch h
theorem kC {m : Str → Option Value} {k : Str} {v : Value} {l : List (Str × Value)} (h : m k = some v) (t : Has m l) : Has m ((k, v) :: l) := List.forall_mem_cons.mpr ⟨h, t⟩
noncomputable def Off (S : List Str) (m m₀ : Str → Option Value) : Prop := ∀ z, S.contains z = false → m z = m₀ z
theorem offR {S : List Str} {m : Str → Option Value} : Off S m m := fun _ _ => rfl
theorem offN {S : List Str} {k z : Str} (h : S.contains k = true) (hz : S.contains z = false) : z ≠ k := fun e => by rw [e, h] at hz; cases hz
theorem offI {S : List Str} {m m₀ : Str → Option Value} {k : Str} {v : Option Value} (h : S.contains k = true) (t : Off S m m₀) : Off S (fun z => if z = k then v else m z) m₀ := fun z hz => (if_neg (offN h hz)).trans (t z hz)
theorem offU {S : List Str} {m m₀ u : Str → Option Value} {k : Str} (h : S.contains k = true) (t : Off S m m₀) : Off S (fun z => if z = k then u z else m z) m₀ := fun z hz => (if_neg (offN h hz)).trans (t z hz)
theorem offS {S T : List Str} {m m₀ u : Str → Option Value} (h : T.all S.contains = true) (t : Off S m m₀) : Off S (fun z => if T.contains z = true then u z else m z) m₀ := fun z hz => (if_neg fun e => by
 have q := List.all_eq_true.mp h z (List.contains_iff_mem.mp e)
 rw [hz] at q; cases q).trans (t z hz)
theorem offK {ps : List (Str × Value)} {l : List Str} {z : Str} (h2 : ∀ p ∈ ps, z ≠ p.1) (h3 : l.contains z = false) : (ps.map (·.1) ++ l).contains z = false := by
 rw [← Bool.not_eq_true, List.contains_iff_mem, List.mem_append]
 rintro (h | h)
 ·obtain ⟨p, hp, e⟩ := List.mem_map.mp h
  exact h2 p hp e.symm
 ·rw [List.contains_iff_mem.mpr h] at h3; cases h3
theorem offW {ps : List (Str × Value)} {l : List Str} {m m₀ : Str → Option Value} (t : Off (ps.map (·.1) ++ l) m m₀) : ∀ z, (∀ p ∈ ps, z ≠ p.1) → l.contains z = false → m z = m₀ z := fun z h2 h3 => t z (offK h2 h3)
theorem offL {ps : List (Str × Value)} {l : List Str} {x : Str} {m m₀ : Str → Option Value} (t : Off (x :: (ps.map (·.1) ++ l)) m m₀) : ∀ z, z ≠ x → (∀ p ∈ ps, z ≠ p.1) → l.contains z = false → m z = m₀ z := fun z h1 h2 h3 => t z (by
 rw [List.contains_cons, offK h2 h3, Bool.or_false, beq_eq_false_iff_ne]; exact h1)
theorem storeF {M : Model} {A : Around} {E : Value → Shared → Prop} {Q : Unit → Shared → Prop} {s : Shared} {h₀ : Heap} {L : Addr} {m : Str → Option Value} {news : List (Addr × Obj)} {cn : Str} {cs : Scope} {a : Addr} {ccd : Value} {cl : List (Str × Addr)} {x : Str} {v : Value} (F : Fr h₀ L s.heap m) (N : News h₀ L s.heap news)
  (h : ∀ h', let m' : Str → Option Value := (fun y => if y = x then some v else m y); Fr h₀ L h' m' → News h₀ L h' news → Q () { s with heap := h', toks := s.toks + 1 })
  (hk : cs.kind = .function) (hx : (envX cn cs L a ccd cl).kindOf x = some .local) : wpAny M A (storeName (envX cn cs L a ccd cl) x v) Q E s := storeX_L F N h hk hx
noncomputable def fdef (i : Nat) : Option (Arguments × List Stmt × Scope) := match PySem.Challenge.pw_ku0016_01.main.body[i]? with
 | some (.FunctionDef _ p b _ _ _ s _ _ _) => some (p, b, s)
 | _ => none
noncomputable def heapK : Params → Frag := by
 refine' (?f : ∀ {p37 : Arguments} {b37 : List Stmt} {s37 : Scope} {p44 : Arguments} {b44 : List Stmt} {s44 : Scope} {p57 : Arguments} {b57 : List Stmt} {s57 : Scope} {p64 : Arguments} {b64 : List Stmt} {s64 : Scope} {p71 : Arguments} {b71 : List Stmt} {s71 : Scope} {p78 : Arguments} {b78 : List Stmt} {s78 : Scope} {p85 : Arguments} {b85 : List Stmt} {s85 : Scope} {p92 : Arguments} {b92 : List Stmt} {s92 : Scope} {p99 : Arguments} {b99 : List Stmt} {s99 : Scope} {p106 : Arguments} {b106 : List Stmt} {s106 : Scope} {p113 : Arguments} {b113 : List Stmt} {s113 : Scope} {p120 : Arguments} {b120 : List Stmt} {s120 : Scope} {p125 : Arguments} {b125 : List Stmt} {s125 : Scope} {p130 : Arguments} {b130 : List Stmt} {s130 : Scope} {p135 : Arguments} {b135 : List Stmt} {s135 : Scope} {p140 : Arguments} {b140 : List Stmt} {s140 : Scope} {p147 : Arguments} {b147 : List Stmt} {s147 : Scope} {p152 : Arguments} {b152 : List Stmt} {s152 : Scope} {p157 : Arguments} {b157 : List Stmt} {s157 : Scope} {p162 : Arguments} {b162 : List Stmt} {s162 : Scope} (_ : fdef 13 = some (p37,b37,s37)) (_ : fdef 14 = some (p44,b44,s44)) (_ : fdef 18 = some (p57,b57,s57)) (_ : fdef 21 = some (p64,b64,s64)) (_ : fdef 22 = some (p71,b71,s71)) (_ : fdef 23 = some (p78,b78,s78)) (_ : fdef 24 = some (p85,b85,s85)) (_ : fdef 25 = some (p92,b92,s92)) (_ : fdef 26 = some (p99,b99,s99)) (_ : fdef 28 = some (p106,b106,s106)) (_ : fdef 29 = some (p113,b113,s113)) (_ : fdef 30 = some (p120,b120,s120)) (_ : fdef 31 = some (p125,b125,s125)) (_ : fdef 32 = some (p130,b130,s130)) (_ : fdef 33 = some (p135,b135,s135)) (_ : fdef 34 = some (p140,b140,s140)) (_ : fdef 35 = some (p147,b147,s147)) (_ : fdef 36 = some (p152,b152,s152)) (_ : fdef 37 = some (p157,b157,s157)) (_ : fdef 38 = some (p162,b162,s162)), Params → Frag) rfl rfl rfl rfl rfl rfl rfl rfl rfl rfl rfl rfl rfl rfl rfl rfl rfl rfl rfl rfl
 case f => exact fun {p37} {b37} {s37} {p44} {b44} {s44} {p57} {b57} {s57} {p64} {b64} {s64} {p71} {b71} {s71} {p78} {b78} {s78} {p85} {b85} {s85} {p92} {b92} {s92} {p99} {b99} {s99} {p106} {b106} {s106} {p113} {b113} {s113} {p120} {b120} {s120} {p125} {b125} {s125} {p130} {b130} {s130} {p135} {b135} {s135} {p140} {b140} {s140} {p147} {b147} {s147} {p152} {b152} {s152} {p157} {b157} {s157} {p162} {b162} {s162} _ _ _ _ _ _ _ _ _ _ _ _ _ _ _ _ _ _ _ _ P => (((nat_lit 2,{ cls := .none,data := .dict #[] }) :: (nat_lit 3,{ cls := .type "dict",data := .dict (List.toArray (⟨PyData.keyHash P (.ofString "__name__"),.str (.ofString "__name__") (165:Nat),.str (.ofString "law_ku0016_01") (1848:Nat)⟩ :: ⟨PyData.keyHash P (.ofString "__doc__"),.str (.ofString "__doc__") (166:Nat),.none⟩ :: ⟨PyData.keyHash P (.ofString "__package__"),.str (.ofString "__package__") (167:Nat),.none⟩ :: ⟨PyData.keyHash P (.ofString "__loader__"),.str (.ofString "__loader__") (168:Nat),.builtin "__main__.__loader__#opaque"⟩ :: ⟨PyData.keyHash P (.ofString "__spec__"),.str (.ofString "__spec__") (169:Nat),.none⟩ :: ⟨PyData.keyHash P (.ofString "__annotations__"),.str (.ofString "__annotations__") (170:Nat),.ref (6:Nat)⟩ :: ⟨PyData.keyHash P (.ofString "__builtins__"),.str (.ofString "__builtins__") (171:Nat),.ref (4:Nat)⟩ :: ⟨PyData.keyHash P (.ofString "__file__"),.str (.ofString "__file__") (173:Nat),.str (.ofString "/claim/cut.py") (172:Nat)⟩ :: ⟨PyData.keyHash P (.ofString "__cached__"),.str (.ofString "__cached__") (174:Nat),.none⟩ :: ⟨PyData.keyHash P (.ofString "NL"),.str (.ofString "NL") (188:Nat),.str (.ofString "\n") (187:Nat)⟩ :: ⟨PyData.keyHash P (.ofString "_QUOPRI_MAP"),.str (.ofString "_QUOPRI_MAP") (1216:Nat),.ref (17:Nat)⟩ :: ⟨PyData.keyHash P (.ofString "_QUOPRI_HEADER_MAP"),.str (.ofString "_QUOPRI_HEADER_MAP") (1217:Nat),.ref (22:Nat)⟩ :: ⟨PyData.keyHash P (.ofString "_QUOPRI_BODY_MAP"),.str (.ofString "_QUOPRI_BODY_MAP") (1218:Nat),.ref (24:Nat)⟩ :: ⟨PyData.keyHash P (.ofString "ascii_lowercase"),.str (.ofString "ascii_lowercase") (1220:Nat),.str (.ofString "abcdefghijklmnopqrstuvwxyz") (1219:Nat)⟩ :: ⟨PyData.keyHash P (.ofString "ascii_uppercase"),.str (.ofString "ascii_uppercase") (1222:Nat),.str (.ofString "ABCDEFGHIJKLMNOPQRSTUVWXYZ") (1221:Nat)⟩ :: ⟨PyData.keyHash P (.ofString "ascii_letters"),.str (.ofString "ascii_letters") (1224:Nat),.str (.ofString "abcdefghijklmnopqrstuvwxyzABCDEFGHIJKLMNOPQRSTUVWXYZ") (1223:Nat)⟩ :: ⟨PyData.keyHash P (.ofString "digits"),.str (.ofString "digits") (1226:Nat),.str (.ofString "0123456789") (1225:Nat)⟩ :: ⟨PyData.keyHash P (.ofString "hexdigits"),.str (.ofString "hexdigits") (1231:Nat),.str (.ofString "0123456789abcdefABCDEF") (1230:Nat)⟩ :: ⟨PyData.keyHash P (.ofString "unquote"),.str (.ofString "unquote") (1737:Nat),.ref (37:Nat)⟩ :: ⟨PyData.keyHash P (.ofString "quote"),.str (.ofString "quote") (1744:Nat),.ref (44:Nat)⟩ :: ⟨PyData.keyHash P (.ofString "_QUOPRI_BODY_ENCODE_MAP"),.str (.ofString "_QUOPRI_BODY_ENCODE_MAP") (1745:Nat),.ref (46:Nat)⟩ :: ⟨PyData.keyHash P (.ofString "decode"),.str (.ofString "decode") (1765:Nat),.ref (57:Nat)⟩ :: ⟨PyData.keyHash P (.ofString "_DIV_LIMIT"),.str (.ofString "_DIV_LIMIT") (1769:Nat),.int 4000 (1768:Nat)⟩ :: ⟨PyData.keyHash P (.ofString "_div2n1n"),.str (.ofString "_div2n1n") (1786:Nat),.ref (64:Nat)⟩ :: ⟨PyData.keyHash P (.ofString "_div3n2n"),.str (.ofString "_div3n2n") (1800:Nat),.ref (71:Nat)⟩ :: ⟨PyData.keyHash P (.ofString "_int2digits"),.str (.ofString "_int2digits") (1811:Nat),.ref (78:Nat)⟩ :: ⟨PyData.keyHash P (.ofString "_digits2int"),.str (.ofString "_digits2int") (1822:Nat),.ref (85:Nat)⟩ :: ⟨PyData.keyHash P (.ofString "_divmod_pos"),.str (.ofString "_divmod_pos") (1837:Nat),.ref (92:Nat)⟩ :: ⟨PyData.keyHash P (.ofString "int_divmod"),.str (.ofString "int_divmod") (1847:Nat),.ref (99:Nat)⟩ :: ⟨PyData.keyHash P (.ofString "_law_counts"),.str (.ofString "_law_counts") (1860:Nat),.ref (106:Nat)⟩ :: ⟨PyData.keyHash P (.ofString "_law_cubed"),.str (.ofString "_law_cubed") (1870:Nat),.ref (113:Nat)⟩ :: ⟨PyData.keyHash P (.ofString "_law_put"),.str (.ofString "_law_put") (1878:Nat),.ref (120:Nat)⟩ :: ⟨PyData.keyHash P (.ofString "_law_tally"),.str (.ofString "_law_tally") (1884:Nat),.ref (125:Nat)⟩ :: ⟨PyData.keyHash P (.ofString "_law_shares"),.str (.ofString "_law_shares") (1890:Nat),.ref (130:Nat)⟩ :: ⟨PyData.keyHash P (.ofString "_law_spelling"),.str (.ofString "_law_spelling") (1896:Nat),.ref (135:Nat)⟩ :: ⟨PyData.keyHash P (.ofString "_law_read"),.str (.ofString "_law_read") (1902:Nat),.ref (140:Nat)⟩ :: ⟨PyData.keyHash P (.ofString "_law_orders"),.str (.ofString "_law_orders") (1916:Nat),.ref (147:Nat)⟩ :: ⟨PyData.keyHash P (.ofString "_law_round"),.str (.ofString "_law_round") (1922:Nat),.ref (152:Nat)⟩ :: ⟨PyData.keyHash P (.ofString "_law_agrees"),.str (.ofString "_law_agrees") (1928:Nat),.ref (157:Nat)⟩ :: ⟨PyData.keyHash P (.ofString "law"),.str (.ofString "law") (1934:Nat),.ref (162:Nat)⟩ :: [])) 42 }) :: (nat_lit 17,{ cls := .type "list",data := .seq (List.toArray (.str (.ofString "=00") (195:Nat) :: .str (.ofString "=01") (199:Nat) :: .str (.ofString "=02") (203:Nat) :: .str (.ofString "=03") (207:Nat) :: .str (.ofString "=04") (211:Nat) :: .str (.ofString "=05") (215:Nat) :: .str (.ofString "=06") (219:Nat) :: .str (.ofString "=07") (223:Nat) :: .str (.ofString "=08") (227:Nat) :: .str (.ofString "=09") (231:Nat) :: .str (.ofString "=0A") (235:Nat) :: .str (.ofString "=0B") (239:Nat) :: .str (.ofString "=0C") (243:Nat) :: .str (.ofString "=0D") (247:Nat) :: .str (.ofString "=0E") (251:Nat) :: .str (.ofString "=0F") (255:Nat) :: .str (.ofString "=10") (259:Nat) :: .str (.ofString "=11") (263:Nat) :: .str (.ofString "=12") (267:Nat) :: .str (.ofString "=13") (271:Nat) :: .str (.ofString "=14") (275:Nat) :: .str (.ofString "=15") (279:Nat) :: .str (.ofString "=16") (283:Nat) :: .str (.ofString "=17") (287:Nat) :: .str (.ofString "=18") (291:Nat) :: .str (.ofString "=19") (295:Nat) :: .str (.ofString "=1A") (299:Nat) :: .str (.ofString "=1B") (303:Nat) :: .str (.ofString "=1C") (307:Nat) :: .str (.ofString "=1D") (311:Nat) :: .str (.ofString "=1E") (315:Nat) :: .str (.ofString "=1F") (319:Nat) :: .str (.ofString "=20") (323:Nat) :: .str (.ofString "=21") (327:Nat) :: .str (.ofString "=22") (331:Nat) :: .str (.ofString "=23") (335:Nat) :: .str (.ofString "=24") (339:Nat) :: .str (.ofString "=25") (343:Nat) :: .str (.ofString "=26") (347:Nat) :: .str (.ofString "=27") (351:Nat) :: .str (.ofString "=28") (355:Nat) :: .str (.ofString "=29") (359:Nat) :: .str (.ofString "=2A") (363:Nat) :: .str (.ofString "=2B") (367:Nat) :: .str (.ofString "=2C") (371:Nat) :: .str (.ofString "=2D") (375:Nat) :: .str (.ofString "=2E") (379:Nat) :: .str (.ofString "=2F") (383:Nat) :: .str (.ofString "=30") (387:Nat) :: .str (.ofString "=31") (391:Nat) :: .str (.ofString "=32") (395:Nat) :: .str (.ofString "=33") (399:Nat) :: .str (.ofString "=34") (403:Nat) :: .str (.ofString "=35") (407:Nat) :: .str (.ofString "=36") (411:Nat) :: .str (.ofString "=37") (415:Nat) :: .str (.ofString "=38") (419:Nat) :: .str (.ofString "=39") (423:Nat) :: .str (.ofString "=3A") (427:Nat) :: .str (.ofString "=3B") (431:Nat) :: .str (.ofString "=3C") (435:Nat) :: .str (.ofString "=3D") (439:Nat) :: .str (.ofString "=3E") (443:Nat) :: .str (.ofString "=3F") (447:Nat) :: .str (.ofString "=40") (451:Nat) :: .str (.ofString "=41") (455:Nat) :: .str (.ofString "=42") (459:Nat) :: .str (.ofString "=43") (463:Nat) :: .str (.ofString "=44") (467:Nat) :: .str (.ofString "=45") (471:Nat) :: .str (.ofString "=46") (475:Nat) :: .str (.ofString "=47") (479:Nat) :: .str (.ofString "=48") (483:Nat) :: .str (.ofString "=49") (487:Nat) :: .str (.ofString "=4A") (491:Nat) :: .str (.ofString "=4B") (495:Nat) :: .str (.ofString "=4C") (499:Nat) :: .str (.ofString "=4D") (503:Nat) :: .str (.ofString "=4E") (507:Nat) :: .str (.ofString "=4F") (511:Nat) :: .str (.ofString "=50") (515:Nat) :: .str (.ofString "=51") (519:Nat) :: .str (.ofString "=52") (523:Nat) :: .str (.ofString "=53") (527:Nat) :: .str (.ofString "=54") (531:Nat) :: .str (.ofString "=55") (535:Nat) :: .str (.ofString "=56") (539:Nat) :: .str (.ofString "=57") (543:Nat) :: .str (.ofString "=58") (547:Nat) :: .str (.ofString "=59") (551:Nat) :: .str (.ofString "=5A") (555:Nat) :: .str (.ofString "=5B") (559:Nat) :: .str (.ofString "=5C") (563:Nat) :: .str (.ofString "=5D") (567:Nat) :: .str (.ofString "=5E") (571:Nat) :: .str (.ofString "=5F") (575:Nat) :: .str (.ofString "=60") (579:Nat) :: .str (.ofString "=61") (583:Nat) :: .str (.ofString "=62") (587:Nat) :: .str (.ofString "=63") (591:Nat) :: .str (.ofString "=64") (595:Nat) :: .str (.ofString "=65") (599:Nat) :: .str (.ofString "=66") (603:Nat) :: .str (.ofString "=67") (607:Nat) :: .str (.ofString "=68") (611:Nat) :: .str (.ofString "=69") (615:Nat) :: .str (.ofString "=6A") (619:Nat) :: .str (.ofString "=6B") (623:Nat) :: .str (.ofString "=6C") (627:Nat) :: .str (.ofString "=6D") (631:Nat) :: .str (.ofString "=6E") (635:Nat) :: .str (.ofString "=6F") (639:Nat) :: .str (.ofString "=70") (643:Nat) :: .str (.ofString "=71") (647:Nat) :: .str (.ofString "=72") (651:Nat) :: .str (.ofString "=73") (655:Nat) :: .str (.ofString "=74") (659:Nat) :: .str (.ofString "=75") (663:Nat) :: .str (.ofString "=76") (667:Nat) :: .str (.ofString "=77") (671:Nat) :: .str (.ofString "=78") (675:Nat) :: .str (.ofString "=79") (679:Nat) :: .str (.ofString "=7A") (683:Nat) :: .str (.ofString "=7B") (687:Nat) :: .str (.ofString "=7C") (691:Nat) :: .str (.ofString "=7D") (695:Nat) :: .str (.ofString "=7E") (699:Nat) :: .str (.ofString "=7F") (703:Nat) :: .str (.ofString "=80") (707:Nat) :: .str (.ofString "=81") (711:Nat) :: .str (.ofString "=82") (715:Nat) :: .str (.ofString "=83") (719:Nat) :: .str (.ofString "=84") (723:Nat) :: .str (.ofString "=85") (727:Nat) :: .str (.ofString "=86") (731:Nat) :: .str (.ofString "=87") (735:Nat) :: .str (.ofString "=88") (739:Nat) :: .str (.ofString "=89") (743:Nat) :: .str (.ofString "=8A") (747:Nat) :: .str (.ofString "=8B") (751:Nat) :: .str (.ofString "=8C") (755:Nat) :: .str (.ofString "=8D") (759:Nat) :: .str (.ofString "=8E") (763:Nat) :: .str (.ofString "=8F") (767:Nat) :: .str (.ofString "=90") (771:Nat) :: .str (.ofString "=91") (775:Nat) :: .str (.ofString "=92") (779:Nat) :: .str (.ofString "=93") (783:Nat) :: .str (.ofString "=94") (787:Nat) :: .str (.ofString "=95") (791:Nat) :: .str (.ofString "=96") (795:Nat) :: .str (.ofString "=97") (799:Nat) :: .str (.ofString "=98") (803:Nat) :: .str (.ofString "=99") (807:Nat) :: .str (.ofString "=9A") (811:Nat) :: .str (.ofString "=9B") (815:Nat) :: .str (.ofString "=9C") (819:Nat) :: .str (.ofString "=9D") (823:Nat) :: .str (.ofString "=9E") (827:Nat) :: .str (.ofString "=9F") (831:Nat) :: .str (.ofString "=A0") (835:Nat) :: .str (.ofString "=A1") (839:Nat) :: .str (.ofString "=A2") (843:Nat) :: .str (.ofString "=A3") (847:Nat) :: .str (.ofString "=A4") (851:Nat) :: .str (.ofString "=A5") (855:Nat) :: .str (.ofString "=A6") (859:Nat) :: .str (.ofString "=A7") (863:Nat) :: .str (.ofString "=A8") (867:Nat) :: .str (.ofString "=A9") (871:Nat) :: .str (.ofString "=AA") (875:Nat) :: .str (.ofString "=AB") (879:Nat) :: .str (.ofString "=AC") (883:Nat) :: .str (.ofString "=AD") (887:Nat) :: .str (.ofString "=AE") (891:Nat) :: .str (.ofString "=AF") (895:Nat) :: .str (.ofString "=B0") (899:Nat) :: .str (.ofString "=B1") (903:Nat) :: .str (.ofString "=B2") (907:Nat) :: .str (.ofString "=B3") (911:Nat) :: .str (.ofString "=B4") (915:Nat) :: .str (.ofString "=B5") (919:Nat) :: .str (.ofString "=B6") (923:Nat) :: .str (.ofString "=B7") (927:Nat) :: .str (.ofString "=B8") (931:Nat) :: .str (.ofString "=B9") (935:Nat) :: .str (.ofString "=BA") (939:Nat) :: .str (.ofString "=BB") (943:Nat) :: .str (.ofString "=BC") (947:Nat) :: .str (.ofString "=BD") (951:Nat) :: .str (.ofString "=BE") (955:Nat) :: .str (.ofString "=BF") (959:Nat) :: .str (.ofString "=C0") (963:Nat) :: .str (.ofString "=C1") (967:Nat) :: .str (.ofString "=C2") (971:Nat) :: .str (.ofString "=C3") (975:Nat) :: .str (.ofString "=C4") (979:Nat) :: .str (.ofString "=C5") (983:Nat) :: .str (.ofString "=C6") (987:Nat) :: .str (.ofString "=C7") (991:Nat) :: .str (.ofString "=C8") (995:Nat) :: .str (.ofString "=C9") (999:Nat) :: .str (.ofString "=CA") (1003:Nat) :: .str (.ofString "=CB") (1007:Nat) :: .str (.ofString "=CC") (1011:Nat) :: .str (.ofString "=CD") (1015:Nat) :: .str (.ofString "=CE") (1019:Nat) :: .str (.ofString "=CF") (1023:Nat) :: .str (.ofString "=D0") (1027:Nat) :: .str (.ofString "=D1") (1031:Nat) :: .str (.ofString "=D2") (1035:Nat) :: .str (.ofString "=D3") (1039:Nat) :: .str (.ofString "=D4") (1043:Nat) :: .str (.ofString "=D5") (1047:Nat) :: .str (.ofString "=D6") (1051:Nat) :: .str (.ofString "=D7") (1055:Nat) :: .str (.ofString "=D8") (1059:Nat) :: .str (.ofString "=D9") (1063:Nat) :: .str (.ofString "=DA") (1067:Nat) :: .str (.ofString "=DB") (1071:Nat) :: .str (.ofString "=DC") (1075:Nat) :: .str (.ofString "=DD") (1079:Nat) :: .str (.ofString "=DE") (1083:Nat) :: .str (.ofString "=DF") (1087:Nat) :: .str (.ofString "=E0") (1091:Nat) :: .str (.ofString "=E1") (1095:Nat) :: .str (.ofString "=E2") (1099:Nat) :: .str (.ofString "=E3") (1103:Nat) :: .str (.ofString "=E4") (1107:Nat) :: .str (.ofString "=E5") (1111:Nat) :: .str (.ofString "=E6") (1115:Nat) :: .str (.ofString "=E7") (1119:Nat) :: .str (.ofString "=E8") (1123:Nat) :: .str (.ofString "=E9") (1127:Nat) :: .str (.ofString "=EA") (1131:Nat) :: .str (.ofString "=EB") (1135:Nat) :: .str (.ofString "=EC") (1139:Nat) :: .str (.ofString "=ED") (1143:Nat) :: .str (.ofString "=EE") (1147:Nat) :: .str (.ofString "=EF") (1151:Nat) :: .str (.ofString "=F0") (1155:Nat) :: .str (.ofString "=F1") (1159:Nat) :: .str (.ofString "=F2") (1163:Nat) :: .str (.ofString "=F3") (1167:Nat) :: .str (.ofString "=F4") (1171:Nat) :: .str (.ofString "=F5") (1175:Nat) :: .str (.ofString "=F6") (1179:Nat) :: .str (.ofString "=F7") (1183:Nat) :: .str (.ofString "=F8") (1187:Nat) :: .str (.ofString "=F9") (1191:Nat) :: .str (.ofString "=FA") (1195:Nat) :: .str (.ofString "=FB") (1199:Nat) :: .str (.ofString "=FC") (1203:Nat) :: .str (.ofString "=FD") (1207:Nat) :: .str (.ofString "=FE") (1211:Nat) :: .str (.ofString "=FF") (1215:Nat) :: [])) 256 }) :: (nat_lit 31,{ cls := .type "tuple",data := .seq #[] }) :: (nat_lit 33,{ cls := .type "tuple",data := .seq #[.str (.ofString "s") (1734:Nat)] }) :: (nat_lit 34,{ cls := .type "tuple",data := .seq #[] }) :: (nat_lit 36,{ cls := .type "code",data := .fields (List.toArray (.str (.ofString "unquote") (1731:Nat) :: .str (.ofString "unquote") (1732:Nat) :: .str (.ofString "/claim/cut.py") (1733:Nat) :: .int 16 (0:Nat) :: .int 1 (0:Nat) :: .int 0 (0:Nat) :: .int 0 (0:Nat) :: .int 3 (0:Nat) :: .ref (31:Nat) :: .bool true :: .int 181 (0:Nat) :: .ref (32:Nat) :: .none :: .ref (33:Nat) :: .ref (34:Nat) :: .ref (35:Nat) :: .int 1735 (0:Nat) :: .int 16 (0:Nat) :: .str (.ofString "/claim/cut.py") (1736:Nat) :: [])) }) :: (nat_lit 37,{ cls := .type "function",data := .func { name := .ofString "unquote",qualname := .ofString "unquote",params := p37,body := .stmts b37,scope := s37,globals := (3:Nat),closure := [],defaults := .none,kwdefaults := .none,pyModule := .str (.ofString "cpy313.email.quoprimime") (1232:Nat),code := .ref (36:Nat) } }) :: (nat_lit 38,{ cls := .type "tuple",data := .seq #[] }) :: (nat_lit 40,{ cls := .type "tuple",data := .seq #[.str (.ofString "c") (1741:Nat)] }) :: (nat_lit 41,{ cls := .type "tuple",data := .seq #[] }) :: (nat_lit 43,{ cls := .type "code",data := .fields (List.toArray (.str (.ofString "quote") (1738:Nat) :: .str (.ofString "quote") (1739:Nat) :: .str (.ofString "/claim/cut.py") (1740:Nat) :: .int 18 (0:Nat) :: .int 1 (0:Nat) :: .int 0 (0:Nat) :: .int 0 (0:Nat) :: .int 3 (0:Nat) :: .ref (38:Nat) :: .bool true :: .int 181 (0:Nat) :: .ref (39:Nat) :: .none :: .ref (40:Nat) :: .ref (41:Nat) :: .ref (42:Nat) :: .int 1742 (0:Nat) :: .int 18 (0:Nat) :: .str (.ofString "/claim/cut.py") (1743:Nat) :: [])) }) :: (nat_lit 44,{ cls := .type "function",data := .func { name := .ofString "quote",qualname := .ofString "quote",params := p44,body := .stmts b44,scope := s44,globals := (3:Nat),closure := [],defaults := .none,kwdefaults := .none,pyModule := .str (.ofString "cpy313.email.quoprimime") (1232:Nat),code := .ref (43:Nat) } }) :: (nat_lit 50,{ cls := .type "tuple",data := .seq #[.str (.ofString "\n") (187:Nat)] }) :: (nat_lit 51,{ cls := .type "tuple",data := .seq #[] }) :: (nat_lit 53,{ cls := .type "tuple",data := .seq #[.str (.ofString "encoded") (1756:Nat),.str (.ofString "eol") (1757:Nat),.str (.ofString "decoded") (1758:Nat),.str (.ofString "line") (1759:Nat),.str (.ofString "i") (1760:Nat),.str (.ofString "n") (1761:Nat),.str (.ofString "c") (1762:Nat)] }) :: (nat_lit 54,{ cls := .type "tuple",data := .seq #[] }) :: (nat_lit 56,{ cls := .type "code",data := .fields (List.toArray (.str (.ofString "decode") (1753:Nat) :: .str (.ofString "decode") (1754:Nat) :: .str (.ofString "/claim/cut.py") (1755:Nat) :: .int 24 (0:Nat) :: .int 2 (0:Nat) :: .int 0 (0:Nat) :: .int 0 (0:Nat) :: .int 3 (0:Nat) :: .ref (51:Nat) :: .bool true :: .int 181 (0:Nat) :: .ref (52:Nat) :: .none :: .ref (53:Nat) :: .ref (54:Nat) :: .ref (55:Nat) :: .int 1763 (0:Nat) :: .int 24 (0:Nat) :: .str (.ofString "/claim/cut.py") (1764:Nat) :: [])) }) :: (nat_lit 57,{ cls := .type "function",data := .func { name := .ofString "decode",qualname := .ofString "decode",params := p57,body := .stmts b57,scope := s57,globals := (3:Nat),closure := [],defaults := .ref (50:Nat),kwdefaults := .none,pyModule := .str (.ofString "cpy313.email.quoprimime") (1232:Nat),code := .ref (56:Nat) } }) :: (nat_lit 58,{ cls := .type "tuple",data := .seq #[] }) :: (nat_lit 60,{ cls := .type "tuple",data := .seq (List.toArray (.str (.ofString "a") (1773:Nat) :: .str (.ofString "b") (1774:Nat) :: .str (.ofString "n") (1775:Nat) :: .str (.ofString "pad") (1776:Nat) :: .str (.ofString "half_n") (1777:Nat) :: .str (.ofString "mask") (1778:Nat) :: .str (.ofString "b1") (1779:Nat) :: .str (.ofString "b2") (1780:Nat) :: .str (.ofString "q1") (1781:Nat) :: .str (.ofString "r") (1782:Nat) :: .str (.ofString "q2") (1783:Nat) :: [])) }) :: (nat_lit 61,{ cls := .type "tuple",data := .seq #[] }) :: (nat_lit 63,{ cls := .type "code",data := .fields (List.toArray (.str (.ofString "_div2n1n") (1770:Nat) :: .str (.ofString "_div2n1n") (1771:Nat) :: .str (.ofString "/claim/cut.py") (1772:Nat) :: .int 56 (0:Nat) :: .int 3 (0:Nat) :: .int 0 (0:Nat) :: .int 0 (0:Nat) :: .int 3 (0:Nat) :: .ref (58:Nat) :: .bool true :: .int 181 (0:Nat) :: .ref (59:Nat) :: .none :: .ref (60:Nat) :: .ref (61:Nat) :: .ref (62:Nat) :: .int 1784 (0:Nat) :: .int 56 (0:Nat) :: .str (.ofString "/claim/cut.py") (1785:Nat) :: [])) }) :: (nat_lit 64,{ cls := .type "function",data := .func { name := .ofString "_div2n1n",qualname := .ofString "_div2n1n",params := p64,body := .stmts b64,scope := s64,globals := (3:Nat),closure := [],defaults := .none,kwdefaults := .none,pyModule := .str (.ofString "cpy313._pylong") (1766:Nat),code := .ref (63:Nat) } }) :: (nat_lit 65,{ cls := .type "tuple",data := .seq #[] }) :: (nat_lit 67,{ cls := .type "tuple",data := .seq #[.str (.ofString "a12") (1790:Nat),.str (.ofString "a3") (1791:Nat),.str (.ofString "b") (1792:Nat),.str (.ofString "b1") (1793:Nat),.str (.ofString "b2") (1794:Nat),.str (.ofString "n") (1795:Nat),.str (.ofString "q") (1796:Nat),.str (.ofString "r") (1797:Nat)] }) :: (nat_lit 68,{ cls := .type "tuple",data := .seq #[] }) :: (nat_lit 70,{ cls := .type "code",data := .fields (List.toArray (.str (.ofString "_div3n2n") (1787:Nat) :: .str (.ofString "_div3n2n") (1788:Nat) :: .str (.ofString "/claim/cut.py") (1789:Nat) :: .int 72 (0:Nat) :: .int 6 (0:Nat) :: .int 0 (0:Nat) :: .int 0 (0:Nat) :: .int 3 (0:Nat) :: .ref (65:Nat) :: .bool true :: .int 181 (0:Nat) :: .ref (66:Nat) :: .none :: .ref (67:Nat) :: .ref (68:Nat) :: .ref (69:Nat) :: .int 1798 (0:Nat) :: .int 72 (0:Nat) :: .str (.ofString "/claim/cut.py") (1799:Nat) :: [])) }) :: (nat_lit 71,{ cls := .type "function",data := .func { name := .ofString "_div3n2n",qualname := .ofString "_div3n2n",params := p71,body := .stmts b71,scope := s71,globals := (3:Nat),closure := [],defaults := .none,kwdefaults := .none,pyModule := .str (.ofString "cpy313._pylong") (1766:Nat),code := .ref (70:Nat) } }) :: (nat_lit 72,{ cls := .type "tuple",data := .seq #[] }) :: (nat_lit 74,{ cls := .type "tuple",data := .seq #[.str (.ofString "a") (1804:Nat),.str (.ofString "n") (1805:Nat)] }) :: (nat_lit 75,{ cls := .type "tuple",data := .seq #[.str (.ofString "n") (1806:Nat),.str (.ofString "a_digits") (1807:Nat),.str (.ofString "inner") (1808:Nat)] }) :: (nat_lit 77,{ cls := .type "code",data := .fields (List.toArray (.str (.ofString "_int2digits") (1801:Nat) :: .str (.ofString "_int2digits") (1802:Nat) :: .str (.ofString "/claim/cut.py") (1803:Nat) :: .int 82 (0:Nat) :: .int 2 (0:Nat) :: .int 0 (0:Nat) :: .int 0 (0:Nat) :: .int 3 (0:Nat) :: .ref (72:Nat) :: .bool true :: .int 181 (0:Nat) :: .ref (73:Nat) :: .none :: .ref (74:Nat) :: .ref (75:Nat) :: .ref (76:Nat) :: .int 1809 (0:Nat) :: .int 82 (0:Nat) :: .str (.ofString "/claim/cut.py") (1810:Nat) :: [])) }) :: (nat_lit 78,{ cls := .type "function",data := .func { name := .ofString "_int2digits",qualname := .ofString "_int2digits",params := p78,body := .stmts b78,scope := s78,globals := (3:Nat),closure := [],defaults := .none,kwdefaults := .none,pyModule := .str (.ofString "cpy313._pylong") (1766:Nat),code := .ref (77:Nat) } }) :: (nat_lit 79,{ cls := .type "tuple",data := .seq #[] }) :: (nat_lit 81,{ cls := .type "tuple",data := .seq #[.str (.ofString "digits") (1815:Nat),.str (.ofString "n") (1816:Nat)] }) :: (nat_lit 82,{ cls := .type "tuple",data := .seq #[.str (.ofString "digits") (1817:Nat),.str (.ofString "n") (1818:Nat),.str (.ofString "inner") (1819:Nat)] }) :: (nat_lit 84,{ cls := .type "code",data := .fields (List.toArray (.str (.ofString "_digits2int") (1812:Nat) :: .str (.ofString "_digits2int") (1813:Nat) :: .str (.ofString "/claim/cut.py") (1814:Nat) :: .int 98 (0:Nat) :: .int 2 (0:Nat) :: .int 0 (0:Nat) :: .int 0 (0:Nat) :: .int 3 (0:Nat) :: .ref (79:Nat) :: .bool true :: .int 181 (0:Nat) :: .ref (80:Nat) :: .none :: .ref (81:Nat) :: .ref (82:Nat) :: .ref (83:Nat) :: .int 1820 (0:Nat) :: .int 98 (0:Nat) :: .str (.ofString "/claim/cut.py") (1821:Nat) :: [])) }) :: (nat_lit 85,{ cls := .type "function",data := .func { name := .ofString "_digits2int",qualname := .ofString "_digits2int",params := p85,body := .stmts b85,scope := s85,globals := (3:Nat),closure := [],defaults := .none,kwdefaults := .none,pyModule := .str (.ofString "cpy313._pylong") (1766:Nat),code := .ref (84:Nat) } }) :: (nat_lit 86,{ cls := .type "tuple",data := .seq #[] }) :: (nat_lit 88,{ cls := .type "tuple",data := .seq (List.toArray (.str (.ofString "a") (1826:Nat) :: .str (.ofString "b") (1827:Nat) :: .str (.ofString "n") (1828:Nat) :: .str (.ofString "a_digits") (1829:Nat) :: .str (.ofString "r") (1830:Nat) :: .str (.ofString "q_digits") (1831:Nat) :: .str (.ofString "a_digit") (1832:Nat) :: .str (.ofString "q_digit") (1833:Nat) :: .str (.ofString "q") (1834:Nat) :: [])) }) :: (nat_lit 89,{ cls := .type "tuple",data := .seq #[] }) :: (nat_lit 91,{ cls := .type "code",data := .fields (List.toArray (.str (.ofString "_divmod_pos") (1823:Nat) :: .str (.ofString "_divmod_pos") (1824:Nat) :: .str (.ofString "/claim/cut.py") (1825:Nat) :: .int 107 (0:Nat) :: .int 2 (0:Nat) :: .int 0 (0:Nat) :: .int 0 (0:Nat) :: .int 3 (0:Nat) :: .ref (86:Nat) :: .bool true :: .int 181 (0:Nat) :: .ref (87:Nat) :: .none :: .ref (88:Nat) :: .ref (89:Nat) :: .ref (90:Nat) :: .int 1835 (0:Nat) :: .int 107 (0:Nat) :: .str (.ofString "/claim/cut.py") (1836:Nat) :: [])) }) :: (nat_lit 92,{ cls := .type "function",data := .func { name := .ofString "_divmod_pos",qualname := .ofString "_divmod_pos",params := p92,body := .stmts b92,scope := s92,globals := (3:Nat),closure := [],defaults := .none,kwdefaults := .none,pyModule := .str (.ofString "cpy313._pylong") (1766:Nat),code := .ref (91:Nat) } }) :: (nat_lit 93,{ cls := .type "tuple",data := .seq #[] }) :: (nat_lit 95,{ cls := .type "tuple",data := .seq #[.str (.ofString "a") (1841:Nat),.str (.ofString "b") (1842:Nat),.str (.ofString "q") (1843:Nat),.str (.ofString "r") (1844:Nat)] }) :: (nat_lit 96,{ cls := .type "tuple",data := .seq #[] }) :: (nat_lit 98,{ cls := .type "code",data := .fields (List.toArray (.str (.ofString "int_divmod") (1838:Nat) :: .str (.ofString "int_divmod") (1839:Nat) :: .str (.ofString "/claim/cut.py") (1840:Nat) :: .int 118 (0:Nat) :: .int 2 (0:Nat) :: .int 0 (0:Nat) :: .int 0 (0:Nat) :: .int 3 (0:Nat) :: .ref (93:Nat) :: .bool true :: .int 181 (0:Nat) :: .ref (94:Nat) :: .none :: .ref (95:Nat) :: .ref (96:Nat) :: .ref (97:Nat) :: .int 1845 (0:Nat) :: .int 118 (0:Nat) :: .str (.ofString "/claim/cut.py") (1846:Nat) :: [])) }) :: (nat_lit 99,{ cls := .type "function",data := .func { name := .ofString "int_divmod",qualname := .ofString "int_divmod",params := p99,body := .stmts b99,scope := s99,globals := (3:Nat),closure := [],defaults := .none,kwdefaults := .none,pyModule := .str (.ofString "cpy313._pylong") (1766:Nat),code := .ref (98:Nat) } }) :: (nat_lit 100,{ cls := .type "tuple",data := .seq #[] }) :: (nat_lit 102,{ cls := .type "tuple",data := .seq #[.str (.ofString "limit") (1853:Nat),.str (.ofString "counts") (1854:Nat),.str (.ofString "k") (1855:Nat),.str (.ofString "told") (1856:Nat),.str (.ofString "rest") (1857:Nat)] }) :: (nat_lit 103,{ cls := .type "tuple",data := .seq #[] }) :: (nat_lit 105,{ cls := .type "code",data := .fields (List.toArray (.str (.ofString "_law_counts") (1850:Nat) :: .str (.ofString "_law_counts") (1851:Nat) :: .str (.ofString "/claim/cut.py") (1852:Nat) :: .int 130 (0:Nat) :: .int 1 (0:Nat) :: .int 0 (0:Nat) :: .int 0 (0:Nat) :: .int 3 (0:Nat) :: .ref (100:Nat) :: .bool true :: .int 181 (0:Nat) :: .ref (101:Nat) :: .none :: .ref (102:Nat) :: .ref (103:Nat) :: .ref (104:Nat) :: .int 1858 (0:Nat) :: .int 130 (0:Nat) :: .str (.ofString "/claim/cut.py") (1859:Nat) :: [])) }) :: (nat_lit 106,{ cls := .type "function",data := .func { name := .ofString "_law_counts",qualname := .ofString "_law_counts",params := p106,body := .stmts b106,scope := s106,globals := (3:Nat),closure := [],defaults := .none,kwdefaults := .none,pyModule := .str (.ofString "law_ku0016_01") (1848:Nat),code := .ref (105:Nat) } }) :: (nat_lit 107,{ cls := .type "tuple",data := .seq #[] }) :: (nat_lit 109,{ cls := .type "tuple",data := .seq #[.str (.ofString "rounds") (1864:Nat),.str (.ofString "limit") (1865:Nat),.str (.ofString "number") (1866:Nat),.str (.ofString "turn") (1867:Nat)] }) :: (nat_lit 110,{ cls := .type "tuple",data := .seq #[] }) :: (nat_lit 112,{ cls := .type "code",data := .fields (List.toArray (.str (.ofString "_law_cubed") (1861:Nat) :: .str (.ofString "_law_cubed") (1862:Nat) :: .str (.ofString "/claim/cut.py") (1863:Nat) :: .int 136 (0:Nat) :: .int 2 (0:Nat) :: .int 0 (0:Nat) :: .int 0 (0:Nat) :: .int 3 (0:Nat) :: .ref (107:Nat) :: .bool true :: .int 181 (0:Nat) :: .ref (108:Nat) :: .none :: .ref (109:Nat) :: .ref (110:Nat) :: .ref (111:Nat) :: .int 1868 (0:Nat) :: .int 136 (0:Nat) :: .str (.ofString "/claim/cut.py") (1869:Nat) :: [])) }) :: (nat_lit 113,{ cls := .type "function",data := .func { name := .ofString "_law_cubed",qualname := .ofString "_law_cubed",params := p113,body := .stmts b113,scope := s113,globals := (3:Nat),closure := [],defaults := .none,kwdefaults := .none,pyModule := .str (.ofString "law_ku0016_01") (1848:Nat),code := .ref (112:Nat) } }) :: (nat_lit 114,{ cls := .type "tuple",data := .seq #[] }) :: (nat_lit 116,{ cls := .type "tuple",data := .seq #[.str (.ofString "text") (1874:Nat),.str (.ofString "place") (1875:Nat)] }) :: (nat_lit 117,{ cls := .type "tuple",data := .seq #[] }) :: (nat_lit 119,{ cls := .type "code",data := .fields (List.toArray (.str (.ofString "_law_put") (1871:Nat) :: .str (.ofString "_law_put") (1872:Nat) :: .str (.ofString "/claim/cut.py") (1873:Nat) :: .int 141 (0:Nat) :: .int 2 (0:Nat) :: .int 0 (0:Nat) :: .int 0 (0:Nat) :: .int 3 (0:Nat) :: .ref (114:Nat) :: .bool true :: .int 181 (0:Nat) :: .ref (115:Nat) :: .none :: .ref (116:Nat) :: .ref (117:Nat) :: .ref (118:Nat) :: .int 1876 (0:Nat) :: .int 141 (0:Nat) :: .str (.ofString "/claim/cut.py") (1877:Nat) :: [])) }) :: (nat_lit 120,{ cls := .type "function",data := .func { name := .ofString "_law_put",qualname := .ofString "_law_put",params := p120,body := .stmts b120,scope := s120,globals := (3:Nat),closure := [],defaults := .none,kwdefaults := .none,pyModule := .str (.ofString "law_ku0016_01") (1848:Nat),code := .ref (119:Nat) } }) :: (nat_lit 121,{ cls := .type "tuple",data := .seq #[] }) :: (nat_lit 124,{ cls := .type "code",data := .fields (List.toArray (.str (.ofString "_law_tally") (1879:Nat) :: .str (.ofString "_law_tally") (1880:Nat) :: .str (.ofString "/claim/cut.py") (1881:Nat) :: .int 143 (0:Nat) :: .int 1 (0:Nat) :: .int 0 (0:Nat) :: .int 0 (0:Nat) :: .int 3 (0:Nat) :: .ref (121:Nat) :: .bool true :: .int 181 (0:Nat) :: .ref (122:Nat) :: .none :: .none :: .none :: .ref (123:Nat) :: .int 1882 (0:Nat) :: .int 143 (0:Nat) :: .str (.ofString "/claim/cut.py") (1883:Nat) :: [])) }) :: (nat_lit 125,{ cls := .type "function",data := .func { name := .ofString "_law_tally",qualname := .ofString "_law_tally",params := p125,body := .stmts b125,scope := s125,globals := (3:Nat),closure := [],defaults := .none,kwdefaults := .none,pyModule := .str (.ofString "law_ku0016_01") (1848:Nat),code := .ref (124:Nat) } }) :: (nat_lit 126,{ cls := .type "tuple",data := .seq #[] }) :: (nat_lit 129,{ cls := .type "code",data := .fields (List.toArray (.str (.ofString "_law_shares") (1885:Nat) :: .str (.ofString "_law_shares") (1886:Nat) :: .str (.ofString "/claim/cut.py") (1887:Nat) :: .int 152 (0:Nat) :: .int 1 (0:Nat) :: .int 0 (0:Nat) :: .int 0 (0:Nat) :: .int 3 (0:Nat) :: .ref (126:Nat) :: .bool true :: .int 181 (0:Nat) :: .ref (127:Nat) :: .none :: .none :: .none :: .ref (128:Nat) :: .int 1888 (0:Nat) :: .int 152 (0:Nat) :: .str (.ofString "/claim/cut.py") (1889:Nat) :: [])) }) :: (nat_lit 130,{ cls := .type "function",data := .func { name := .ofString "_law_shares",qualname := .ofString "_law_shares",params := p130,body := .stmts b130,scope := s130,globals := (3:Nat),closure := [],defaults := .none,kwdefaults := .none,pyModule := .str (.ofString "law_ku0016_01") (1848:Nat),code := .ref (129:Nat) } }) :: (nat_lit 131,{ cls := .type "tuple",data := .seq #[] }) :: (nat_lit 134,{ cls := .type "code",data := .fields (List.toArray (.str (.ofString "_law_spelling") (1891:Nat) :: .str (.ofString "_law_spelling") (1892:Nat) :: .str (.ofString "/claim/cut.py") (1893:Nat) :: .int 154 (0:Nat) :: .int 4 (0:Nat) :: .int 0 (0:Nat) :: .int 0 (0:Nat) :: .int 3 (0:Nat) :: .ref (131:Nat) :: .bool true :: .int 181 (0:Nat) :: .ref (132:Nat) :: .none :: .none :: .none :: .ref (133:Nat) :: .int 1894 (0:Nat) :: .int 154 (0:Nat) :: .str (.ofString "/claim/cut.py") (1895:Nat) :: [])) }) :: (nat_lit 135,{ cls := .type "function",data := .func { name := .ofString "_law_spelling",qualname := .ofString "_law_spelling",params := p135,body := .stmts b135,scope := s135,globals := (3:Nat),closure := [],defaults := .none,kwdefaults := .none,pyModule := .str (.ofString "law_ku0016_01") (1848:Nat),code := .ref (134:Nat) } }) :: (nat_lit 136,{ cls := .type "tuple",data := .seq #[] }) :: (nat_lit 139,{ cls := .type "code",data := .fields (List.toArray (.str (.ofString "_law_read") (1897:Nat) :: .str (.ofString "_law_read") (1898:Nat) :: .str (.ofString "/claim/cut.py") (1899:Nat) :: .int 165 (0:Nat) :: .int 2 (0:Nat) :: .int 0 (0:Nat) :: .int 0 (0:Nat) :: .int 3 (0:Nat) :: .ref (136:Nat) :: .bool true :: .int 181 (0:Nat) :: .ref (137:Nat) :: .none :: .none :: .none :: .ref (138:Nat) :: .int 1900 (0:Nat) :: .int 165 (0:Nat) :: .str (.ofString "/claim/cut.py") (1901:Nat) :: [])) }) :: (nat_lit 140,{ cls := .type "function",data := .func { name := .ofString "_law_read",qualname := .ofString "_law_read",params := p140,body := .stmts b140,scope := s140,globals := (3:Nat),closure := [],defaults := .none,kwdefaults := .none,pyModule := .str (.ofString "law_ku0016_01") (1848:Nat),code := .ref (139:Nat) } }) :: (nat_lit 141,{ cls := .type "tuple",data := .seq #[] }) :: (nat_lit 143,{ cls := .type "tuple",data := .seq #[.str (.ofString "text") (1906:Nat),.str (.ofString "steps") (1907:Nat),.str (.ofString "ways") (1908:Nat),.str (.ofString "turn") (1909:Nat),.str (.ofString "less") (1910:Nat),.str (.ofString "now") (1911:Nat),.str (.ofString "place") (1912:Nat),.str (.ofString "left") (1913:Nat)] }) :: (nat_lit 144,{ cls := .type "tuple",data := .seq #[] }) :: (nat_lit 146,{ cls := .type "code",data := .fields (List.toArray (.str (.ofString "_law_orders") (1903:Nat) :: .str (.ofString "_law_orders") (1904:Nat) :: .str (.ofString "/claim/cut.py") (1905:Nat) :: .int 177 (0:Nat) :: .int 2 (0:Nat) :: .int 0 (0:Nat) :: .int 0 (0:Nat) :: .int 3 (0:Nat) :: .ref (141:Nat) :: .bool true :: .int 181 (0:Nat) :: .ref (142:Nat) :: .none :: .ref (143:Nat) :: .ref (144:Nat) :: .ref (145:Nat) :: .int 1914 (0:Nat) :: .int 177 (0:Nat) :: .str (.ofString "/claim/cut.py") (1915:Nat) :: [])) }) :: (nat_lit 147,{ cls := .type "function",data := .func { name := .ofString "_law_orders",qualname := .ofString "_law_orders",params := p147,body := .stmts b147,scope := s147,globals := (3:Nat),closure := [],defaults := .none,kwdefaults := .none,pyModule := .str (.ofString "law_ku0016_01") (1848:Nat),code := .ref (146:Nat) } }) :: (nat_lit 148,{ cls := .type "tuple",data := .seq #[] }) :: (nat_lit 151,{ cls := .type "code",data := .fields (List.toArray (.str (.ofString "_law_round") (1917:Nat) :: .str (.ofString "_law_round") (1918:Nat) :: .str (.ofString "/claim/cut.py") (1919:Nat) :: .int 188 (0:Nat) :: .int 1 (0:Nat) :: .int 0 (0:Nat) :: .int 0 (0:Nat) :: .int 3 (0:Nat) :: .ref (148:Nat) :: .bool true :: .int 181 (0:Nat) :: .ref (149:Nat) :: .none :: .none :: .none :: .ref (150:Nat) :: .int 1920 (0:Nat) :: .int 188 (0:Nat) :: .str (.ofString "/claim/cut.py") (1921:Nat) :: [])) }) :: (nat_lit 152,{ cls := .type "function",data := .func { name := .ofString "_law_round",qualname := .ofString "_law_round",params := p152,body := .stmts b152,scope := s152,globals := (3:Nat),closure := [],defaults := .none,kwdefaults := .none,pyModule := .str (.ofString "law_ku0016_01") (1848:Nat),code := .ref (151:Nat) } }) :: (nat_lit 153,{ cls := .type "tuple",data := .seq #[] }) :: (nat_lit 156,{ cls := .type "code",data := .fields (List.toArray (.str (.ofString "_law_agrees") (1923:Nat) :: .str (.ofString "_law_agrees") (1924:Nat) :: .str (.ofString "/claim/cut.py") (1925:Nat) :: .int 191 (0:Nat) :: .int 2 (0:Nat) :: .int 0 (0:Nat) :: .int 0 (0:Nat) :: .int 3 (0:Nat) :: .ref (153:Nat) :: .bool true :: .int 181 (0:Nat) :: .ref (154:Nat) :: .none :: .none :: .none :: .ref (155:Nat) :: .int 1926 (0:Nat) :: .int 191 (0:Nat) :: .str (.ofString "/claim/cut.py") (1927:Nat) :: [])) }) :: (nat_lit 157,{ cls := .type "function",data := .func { name := .ofString "_law_agrees",qualname := .ofString "_law_agrees",params := p157,body := .stmts b157,scope := s157,globals := (3:Nat),closure := [],defaults := .none,kwdefaults := .none,pyModule := .str (.ofString "law_ku0016_01") (1848:Nat),code := .ref (156:Nat) } }) :: (nat_lit 158,{ cls := .type "tuple",data := .seq #[] }) :: (nat_lit 161,{ cls := .type "code",data := .fields (List.toArray (.str (.ofString "law") (1929:Nat) :: .str (.ofString "law") (1930:Nat) :: .str (.ofString "/claim/cut.py") (1931:Nat) :: .int 205 (0:Nat) :: .int 1 (0:Nat) :: .int 0 (0:Nat) :: .int 0 (0:Nat) :: .int 3 (0:Nat) :: .ref (158:Nat) :: .bool true :: .int 181 (0:Nat) :: .ref (159:Nat) :: .none :: .none :: .none :: .ref (160:Nat) :: .int 1932 (0:Nat) :: .int 205 (0:Nat) :: .str (.ofString "/claim/cut.py") (1933:Nat) :: [])) }) :: (nat_lit 162,{ cls := .type "function",data := .func { name := .ofString "law",qualname := .ofString "law",params := p162,body := .stmts b162,scope := s162,globals := (3:Nat),closure := [],defaults := .none,kwdefaults := .none,pyModule := .str (.ofString "law_ku0016_01") (1848:Nat),code := .ref (161:Nat) } }) :: []) : List (Nat × Obj))
noncomputable def viewK : Program := view PySem.Challenge.rw_ku0016_01.row.toRowW.prog [0,1,2,3,4,5,6,7,8,13,14,15,20,21,22,23,24,25,26,28,29,30,31,32,33,34,35,36,37,38]
noncomputable abbrev litK : List (Str × WData) := [(Str.ofString "ascii_letters", WData.str (Str.ofString "abcdefghijklmnopqrstuvwxyzABCDEFGHIJKLMNOPQRSTUVWXYZ")), (Str.ofString "hexdigits", WData.str (Str.ofString "0123456789abcdefABCDEF"))]
noncomputable abbrev looseK : List Str := [Str.ofString "_QUOPRI_MAP", Str.ofString "_QUOPRI_HEADER_MAP", Str.ofString "_QUOPRI_BODY_MAP", Str.ofString "ascii_letters", Str.ofString "hexdigits", Str.ofString "_QUOPRI_BODY_ENCODE_MAP", Str.ofString "decode"]
noncomputable abbrev addrK : List Addr := [2,3,17,31,33,34,36,37,38,40,41,43,44,50,51,53,54,56,57,58,60,61,63,64,65,67,68,70,71,72,74,75,77,78,79,81,82,84,85,86,88,89,91,92,93,95,96,98,99,100,102,103,105,106,107,109,110,112,113,114,116,117,119,120,121,124,125,126,129,130,131,134,135,136,139,140,141,143,144,146,147,148,151,152,153,156,157,158,161,162]
theorem addrK_ok (P : Params) : addrK = (heapK P).map (·.1) := by kernel_rfl
noncomputable abbrev hookK : Hook := kmHook heapK addrK addrK_ok [80, 73]
theorem saidK : PySem.Challenge.rw_ku0016_01.wellSaid = true := by rw [Fast.te9446332074065402090]; kernel_rfl
end Mine
namespace Mine
noncomputable abbrev listK : List Value := [.str (.ofString "=00") 195, .str (.ofString "=01") 199, .str (.ofString "=02") 203, .str (.ofString "=03") 207, .str (.ofString "=04") 211, .str (.ofString "=05") 215, .str (.ofString "=06") 219, .str (.ofString "=07") 223, .str (.ofString "=08") 227, .str (.ofString "=09") 231, .str (.ofString "=0A") 235, .str (.ofString "=0B") 239, .str (.ofString "=0C") 243, .str (.ofString "=0D") 247, .str (.ofString "=0E") 251, .str (.ofString "=0F") 255, .str (.ofString "=10") 259, .str (.ofString "=11") 263, .str (.ofString "=12") 267, .str (.ofString "=13") 271, .str (.ofString "=14") 275, .str (.ofString "=15") 279, .str (.ofString "=16") 283, .str (.ofString "=17") 287, .str (.ofString "=18") 291, .str (.ofString "=19") 295, .str (.ofString "=1A") 299, .str (.ofString "=1B") 303, .str (.ofString "=1C") 307, .str (.ofString "=1D") 311, .str (.ofString "=1E") 315, .str (.ofString "=1F") 319, .str (.ofString "=20") 323, .str (.ofString "=21") 327, .str (.ofString "=22") 331, .str (.ofString "=23") 335, .str (.ofString "=24") 339, .str (.ofString "=25") 343, .str (.ofString "=26") 347, .str (.ofString "=27") 351, .str (.ofString "=28") 355, .str (.ofString "=29") 359, .str (.ofString "=2A") 363, .str (.ofString "=2B") 367, .str (.ofString "=2C") 371, .str (.ofString "=2D") 375, .str (.ofString "=2E") 379, .str (.ofString "=2F") 383, .str (.ofString "=30") 387, .str (.ofString "=31") 391, .str (.ofString "=32") 395, .str (.ofString "=33") 399, .str (.ofString "=34") 403, .str (.ofString "=35") 407, .str (.ofString "=36") 411, .str (.ofString "=37") 415, .str (.ofString "=38") 419, .str (.ofString "=39") 423, .str (.ofString "=3A") 427, .str (.ofString "=3B") 431, .str (.ofString "=3C") 435, .str (.ofString "=3D") 439, .str (.ofString "=3E") 443, .str (.ofString "=3F") 447, .str (.ofString "=40") 451, .str (.ofString "=41") 455, .str (.ofString "=42") 459, .str (.ofString "=43") 463, .str (.ofString "=44") 467, .str (.ofString "=45") 471, .str (.ofString "=46") 475, .str (.ofString "=47") 479, .str (.ofString "=48") 483, .str (.ofString "=49") 487, .str (.ofString "=4A") 491, .str (.ofString "=4B") 495, .str (.ofString "=4C") 499, .str (.ofString "=4D") 503, .str (.ofString "=4E") 507, .str (.ofString "=4F") 511, .str (.ofString "=50") 515, .str (.ofString "=51") 519, .str (.ofString "=52") 523, .str (.ofString "=53") 527, .str (.ofString "=54") 531, .str (.ofString "=55") 535, .str (.ofString "=56") 539, .str (.ofString "=57") 543, .str (.ofString "=58") 547, .str (.ofString "=59") 551, .str (.ofString "=5A") 555, .str (.ofString "=5B") 559, .str (.ofString "=5C") 563, .str (.ofString "=5D") 567, .str (.ofString "=5E") 571, .str (.ofString "=5F") 575, .str (.ofString "=60") 579, .str (.ofString "=61") 583, .str (.ofString "=62") 587, .str (.ofString "=63") 591, .str (.ofString "=64") 595, .str (.ofString "=65") 599, .str (.ofString "=66") 603, .str (.ofString "=67") 607, .str (.ofString "=68") 611, .str (.ofString "=69") 615, .str (.ofString "=6A") 619, .str (.ofString "=6B") 623, .str (.ofString "=6C") 627, .str (.ofString "=6D") 631, .str (.ofString "=6E") 635, .str (.ofString "=6F") 639, .str (.ofString "=70") 643, .str (.ofString "=71") 647, .str (.ofString "=72") 651, .str (.ofString "=73") 655, .str (.ofString "=74") 659, .str (.ofString "=75") 663, .str (.ofString "=76") 667, .str (.ofString "=77") 671, .str (.ofString "=78") 675, .str (.ofString "=79") 679, .str (.ofString "=7A") 683, .str (.ofString "=7B") 687, .str (.ofString "=7C") 691, .str (.ofString "=7D") 695, .str (.ofString "=7E") 699, .str (.ofString "=7F") 703, .str (.ofString "=80") 707, .str (.ofString "=81") 711, .str (.ofString "=82") 715, .str (.ofString "=83") 719, .str (.ofString "=84") 723, .str (.ofString "=85") 727, .str (.ofString "=86") 731, .str (.ofString "=87") 735, .str (.ofString "=88") 739, .str (.ofString "=89") 743, .str (.ofString "=8A") 747, .str (.ofString "=8B") 751, .str (.ofString "=8C") 755, .str (.ofString "=8D") 759, .str (.ofString "=8E") 763, .str (.ofString "=8F") 767, .str (.ofString "=90") 771, .str (.ofString "=91") 775, .str (.ofString "=92") 779, .str (.ofString "=93") 783, .str (.ofString "=94") 787, .str (.ofString "=95") 791, .str (.ofString "=96") 795, .str (.ofString "=97") 799, .str (.ofString "=98") 803, .str (.ofString "=99") 807, .str (.ofString "=9A") 811, .str (.ofString "=9B") 815, .str (.ofString "=9C") 819, .str (.ofString "=9D") 823, .str (.ofString "=9E") 827, .str (.ofString "=9F") 831, .str (.ofString "=A0") 835, .str (.ofString "=A1") 839, .str (.ofString "=A2") 843, .str (.ofString "=A3") 847, .str (.ofString "=A4") 851, .str (.ofString "=A5") 855, .str (.ofString "=A6") 859, .str (.ofString "=A7") 863, .str (.ofString "=A8") 867, .str (.ofString "=A9") 871, .str (.ofString "=AA") 875, .str (.ofString "=AB") 879, .str (.ofString "=AC") 883, .str (.ofString "=AD") 887, .str (.ofString "=AE") 891, .str (.ofString "=AF") 895, .str (.ofString "=B0") 899, .str (.ofString "=B1") 903, .str (.ofString "=B2") 907, .str (.ofString "=B3") 911, .str (.ofString "=B4") 915, .str (.ofString "=B5") 919, .str (.ofString "=B6") 923, .str (.ofString "=B7") 927, .str (.ofString "=B8") 931, .str (.ofString "=B9") 935, .str (.ofString "=BA") 939, .str (.ofString "=BB") 943, .str (.ofString "=BC") 947, .str (.ofString "=BD") 951, .str (.ofString "=BE") 955, .str (.ofString "=BF") 959, .str (.ofString "=C0") 963, .str (.ofString "=C1") 967, .str (.ofString "=C2") 971, .str (.ofString "=C3") 975, .str (.ofString "=C4") 979, .str (.ofString "=C5") 983, .str (.ofString "=C6") 987, .str (.ofString "=C7") 991, .str (.ofString "=C8") 995, .str (.ofString "=C9") 999, .str (.ofString "=CA") 1003, .str (.ofString "=CB") 1007, .str (.ofString "=CC") 1011, .str (.ofString "=CD") 1015, .str (.ofString "=CE") 1019, .str (.ofString "=CF") 1023, .str (.ofString "=D0") 1027, .str (.ofString "=D1") 1031, .str (.ofString "=D2") 1035, .str (.ofString "=D3") 1039, .str (.ofString "=D4") 1043, .str (.ofString "=D5") 1047, .str (.ofString "=D6") 1051, .str (.ofString "=D7") 1055, .str (.ofString "=D8") 1059, .str (.ofString "=D9") 1063, .str (.ofString "=DA") 1067, .str (.ofString "=DB") 1071, .str (.ofString "=DC") 1075, .str (.ofString "=DD") 1079, .str (.ofString "=DE") 1083, .str (.ofString "=DF") 1087, .str (.ofString "=E0") 1091, .str (.ofString "=E1") 1095, .str (.ofString "=E2") 1099, .str (.ofString "=E3") 1103, .str (.ofString "=E4") 1107, .str (.ofString "=E5") 1111, .str (.ofString "=E6") 1115, .str (.ofString "=E7") 1119, .str (.ofString "=E8") 1123, .str (.ofString "=E9") 1127, .str (.ofString "=EA") 1131, .str (.ofString "=EB") 1135, .str (.ofString "=EC") 1139, .str (.ofString "=ED") 1143, .str (.ofString "=EE") 1147, .str (.ofString "=EF") 1151, .str (.ofString "=F0") 1155, .str (.ofString "=F1") 1159, .str (.ofString "=F2") 1163, .str (.ofString "=F3") 1167, .str (.ofString "=F4") 1171, .str (.ofString "=F5") 1175, .str (.ofString "=F6") 1179, .str (.ofString "=F7") 1183, .str (.ofString "=F8") 1187, .str (.ofString "=F9") 1191, .str (.ofString "=FA") 1195, .str (.ofString "=FB") 1199, .str (.ofString "=FC") 1203, .str (.ofString "=FD") 1207, .str (.ofString "=FE") 1211, .str (.ofString "=FF") 1215]
noncomputable def ob0 (P : Params) : Obj := ({ cls := .type "tuple", data := .seq #[] } : Obj)
noncomputable def ob1 (P : Params) : Obj := ({ cls := .none, data := .fields #[] } : Obj)
noncomputable def ob2 (P : Params) : Obj := ({ cls := .type "code", data := .fields #[.str (.ofString "<module>") 182, .str (.ofString "<module>") 183, .str (.ofString "/claim/cut.py") 184, .int 1 0, .int 0 0, .int 0 0, .int 0 0, .int 0 0, .ref 11, .bool false, .int 181 0, .ref 12, .none, .none, .none, .none, .int 185 0, .int 1 0, .str (.ofString "/claim/cut.py") 186] } : Obj)
noncomputable def ob3 (P : Params) : Obj := ({ cls := .type "frame", slots := #[some (.ref 13), some (.ref 3), some (.ref 3), none, some (.str (.ofString "__main__") 164), none, some (.ref 0)] } : Obj)
noncomputable def ob4 (P : Params) : Obj := ({ cls := .type "dict", data := .dict #[⟨PyData.keyHash P (.ofString "__name__"), .str (.ofString "__name__") 165, .str (.ofString "__main__") 164⟩, ⟨PyData.keyHash P (.ofString "__doc__"), .str (.ofString "__doc__") 166, .none⟩, ⟨PyData.keyHash P (.ofString "__package__"), .str (.ofString "__package__") 167, .none⟩, ⟨PyData.keyHash P (.ofString "__loader__"), .str (.ofString "__loader__") 168, .builtin "__main__.__loader__#opaque"⟩, ⟨PyData.keyHash P (.ofString "__spec__"), .str (.ofString "__spec__") 169, .none⟩, ⟨PyData.keyHash P (.ofString "__annotations__"), .str (.ofString "__annotations__") 170, .ref 6⟩, ⟨PyData.keyHash P (.ofString "__builtins__"), .str (.ofString "__builtins__") 171, .ref 4⟩, ⟨PyData.keyHash P (.ofString "__file__"), .str (.ofString "__file__") 173, .str (.ofString "/claim/cut.py") 172⟩, ⟨PyData.keyHash P (.ofString "__cached__"), .str (.ofString "__cached__") 174, .none⟩, ⟨PyData.keyHash P (.ofString "NL"), .str (.ofString "NL") 188, .str (.ofString "\n") 187⟩] 10 } : Obj)
noncomputable def ob5 (P : Params) : Obj := ({ cls := .type "range", data := .fields #[.int 0 190, .int 256 189, .int 1 191] } : Obj)
noncomputable def ob6 (P : Params) (n : Nat) : Obj := ({ cls := .type "range_iterator", data := .fields #[.int (Int.ofNat n) 0, .int (Int.ofNat (256 - n)) 0, .int 1 0] } : Obj)
noncomputable def ob7 (P : Params) (n : Nat) : Obj := ({ cls := .type "list", data := .seq ⟨listK.take n⟩ n } : Obj)
noncomputable def ob8 (P : Params) (n : Nat) : Obj := ({ cls := .type "dict", data := .dict #[⟨PyData.keyHash P (.ofString "c"), .str (.ofString "c") 193, .int (Int.ofNat (n - 1)) (188 + 4 * n)⟩] 1 } : Obj)
noncomputable def ob9 (P : Params) : Obj := ({ cls := .type "dict", data := .dict #[⟨PyData.keyHash P (.ofString "__name__"), .str (.ofString "__name__") 165, .str (.ofString "__main__") 164⟩, ⟨PyData.keyHash P (.ofString "__doc__"), .str (.ofString "__doc__") 166, .none⟩, ⟨PyData.keyHash P (.ofString "__package__"), .str (.ofString "__package__") 167, .none⟩, ⟨PyData.keyHash P (.ofString "__loader__"), .str (.ofString "__loader__") 168, .builtin "__main__.__loader__#opaque"⟩, ⟨PyData.keyHash P (.ofString "__spec__"), .str (.ofString "__spec__") 169, .none⟩, ⟨PyData.keyHash P (.ofString "__annotations__"), .str (.ofString "__annotations__") 170, .ref 6⟩, ⟨PyData.keyHash P (.ofString "__builtins__"), .str (.ofString "__builtins__") 171, .ref 4⟩, ⟨PyData.keyHash P (.ofString "__file__"), .str (.ofString "__file__") 173, .str (.ofString "/claim/cut.py") 172⟩, ⟨PyData.keyHash P (.ofString "__cached__"), .str (.ofString "__cached__") 174, .none⟩, ⟨PyData.keyHash P (.ofString "NL"), .str (.ofString "NL") 188, .str (.ofString "\n") 187⟩, ⟨PyData.keyHash P (.ofString "_QUOPRI_MAP"), .str (.ofString "_QUOPRI_MAP") 1216, .ref 17⟩] 11 } : Obj)
noncomputable def ob10 (P : Params) : Obj := ({ cls := .type "range_iterator", data := .fields #[.int 256 0, .int 0 0, .int 1 0] } : Obj)
noncomputable def ob11 (P : Params) : Obj := ({ cls := .type "list", data := .seq ⟨listK⟩ 256 } : Obj)
noncomputable def ob12 (P : Params) : Obj := ({ cls := .type "dict", data := .dict #[] 2 } : Obj)
noncomputable def ob13 (P : Params) : Obj := ({ cls := .type "StopIteration", data := .fields #[.ref 19, .none, .none, .none, .bool false, .none] } : Obj)
noncomputable def ob14 (P : Params) : Obj := ({ cls := .type "dict", data := .dict #[⟨PyData.keyHash P (.ofString "__name__"), .str (.ofString "__name__") 165, .str (.ofString "cpy313.email.quoprimime") 1232⟩, ⟨PyData.keyHash P (.ofString "__doc__"), .str (.ofString "__doc__") 166, .none⟩, ⟨PyData.keyHash P (.ofString "__package__"), .str (.ofString "__package__") 167, .none⟩, ⟨PyData.keyHash P (.ofString "__loader__"), .str (.ofString "__loader__") 168, .builtin "__main__.__loader__#opaque"⟩, ⟨PyData.keyHash P (.ofString "__spec__"), .str (.ofString "__spec__") 169, .none⟩, ⟨PyData.keyHash P (.ofString "__annotations__"), .str (.ofString "__annotations__") 170, .ref 6⟩, ⟨PyData.keyHash P (.ofString "__builtins__"), .str (.ofString "__builtins__") 171, .ref 4⟩, ⟨PyData.keyHash P (.ofString "__file__"), .str (.ofString "__file__") 173, .str (.ofString "/claim/cut.py") 172⟩, ⟨PyData.keyHash P (.ofString "__cached__"), .str (.ofString "__cached__") 174, .none⟩, ⟨PyData.keyHash P (.ofString "NL"), .str (.ofString "NL") 188, .str (.ofString "\n") 187⟩, ⟨PyData.keyHash P (.ofString "_QUOPRI_MAP"), .str (.ofString "_QUOPRI_MAP") 1216, .ref 17⟩, ⟨PyData.keyHash P (.ofString "_QUOPRI_HEADER_MAP"), .str (.ofString "_QUOPRI_HEADER_MAP") 1217, .ref 22⟩, ⟨PyData.keyHash P (.ofString "_QUOPRI_BODY_MAP"), .str (.ofString "_QUOPRI_BODY_MAP") 1218, .ref 24⟩, ⟨PyData.keyHash P (.ofString "ascii_lowercase"), .str (.ofString "ascii_lowercase") 1220, .str (.ofString "abcdefghijklmnopqrstuvwxyz") 1219⟩, ⟨PyData.keyHash P (.ofString "ascii_uppercase"), .str (.ofString "ascii_uppercase") 1222, .str (.ofString "ABCDEFGHIJKLMNOPQRSTUVWXYZ") 1221⟩, ⟨PyData.keyHash P (.ofString "ascii_letters"), .str (.ofString "ascii_letters") 1224, .str (.ofString "abcdefghijklmnopqrstuvwxyzABCDEFGHIJKLMNOPQRSTUVWXYZ") 1223⟩, ⟨PyData.keyHash P (.ofString "digits"), .str (.ofString "digits") 1226, .str (.ofString "0123456789") 1225⟩, ⟨PyData.keyHash P (.ofString "hexdigits"), .str (.ofString "hexdigits") 1231, .str (.ofString "0123456789abcdefABCDEF") 1230⟩, ⟨PyData.keyHash P (.ofString "c"), .str (.ofString "c") 1242, .int 57 1439⟩] 19 } : Obj)
noncomputable def ob15 (P : Params) : Obj := ({ cls := .type "slice", data := .fields #[.none, .none, .none] } : Obj)
noncomputable def ob16 (P : Params) : Obj := ({ cls := .type "list", data := .seq #[.str (.ofString "=00") 195, .str (.ofString "=01") 199, .str (.ofString "=02") 203, .str (.ofString "=03") 207, .str (.ofString "=04") 211, .str (.ofString "=05") 215, .str (.ofString "=06") 219, .str (.ofString "=07") 223, .str (.ofString "=08") 227, .str (.ofString "=09") 231, .str (.ofString "=0A") 235, .str (.ofString "=0B") 239, .str (.ofString "=0C") 243, .str (.ofString "=0D") 247, .str (.ofString "=0E") 251, .str (.ofString "=0F") 255, .str (.ofString "=10") 259, .str (.ofString "=11") 263, .str (.ofString "=12") 267, .str (.ofString "=13") 271, .str (.ofString "=14") 275, .str (.ofString "=15") 279, .str (.ofString "=16") 283, .str (.ofString "=17") 287, .str (.ofString "=18") 291, .str (.ofString "=19") 295, .str (.ofString "=1A") 299, .str (.ofString "=1B") 303, .str (.ofString "=1C") 307, .str (.ofString "=1D") 311, .str (.ofString "=1E") 315, .str (.ofString "=1F") 319, .str (.ofString "_") 1442, .str (.ofString "!") 1246, .str (.ofString "=22") 331, .str (.ofString "=23") 335, .str (.ofString "=24") 339, .str (.ofString "=25") 343, .str (.ofString "=26") 347, .str (.ofString "=27") 351, .str (.ofString "=28") 355, .str (.ofString "=29") 359, .str (.ofString "*") 1249, .str (.ofString "+") 1252, .str (.ofString "=2C") 371, .str (.ofString "-") 1243, .str (.ofString "=2E") 379, .str (.ofString "/") 1255, .str (.ofString "0") 1414, .str (.ofString "1") 1417, .str (.ofString "2") 1420, .str (.ofString "3") 1423, .str (.ofString "4") 1426, .str (.ofString "5") 1429, .str (.ofString "6") 1432, .str (.ofString "7") 1435, .str (.ofString "8") 1438, .str (.ofString "9") 1441, .str (.ofString "=3A") 427, .str (.ofString "=3B") 431, .str (.ofString "=3C") 435, .str (.ofString "=3D") 439, .str (.ofString "=3E") 443, .str (.ofString "=3F") 447, .str (.ofString "=40") 451, .str (.ofString "A") 1336, .str (.ofString "B") 1339, .str (.ofString "C") 1342, .str (.ofString "D") 1345, .str (.ofString "E") 1348, .str (.ofString "F") 1351, .str (.ofString "G") 1354, .str (.ofString "H") 1357, .str (.ofString "I") 1360, .str (.ofString "J") 1363, .str (.ofString "K") 1366, .str (.ofString "L") 1369, .str (.ofString "M") 1372, .str (.ofString "N") 1375, .str (.ofString "O") 1378, .str (.ofString "P") 1381, .str (.ofString "Q") 1384, .str (.ofString "R") 1387, .str (.ofString "S") 1390, .str (.ofString "T") 1393, .str (.ofString "U") 1396, .str (.ofString "V") 1399, .str (.ofString "W") 1402, .str (.ofString "X") 1405, .str (.ofString "Y") 1408, .str (.ofString "Z") 1411, .str (.ofString "=5B") 559, .str (.ofString "=5C") 563, .str (.ofString "=5D") 567, .str (.ofString "=5E") 571, .str (.ofString "=5F") 575, .str (.ofString "=60") 579, .str (.ofString "a") 1258, .str (.ofString "b") 1261, .str (.ofString "c") 1264, .str (.ofString "d") 1267, .str (.ofString "e") 1270, .str (.ofString "f") 1273, .str (.ofString "g") 1276, .str (.ofString "h") 1279, .str (.ofString "i") 1282, .str (.ofString "j") 1285, .str (.ofString "k") 1288, .str (.ofString "l") 1291, .str (.ofString "m") 1294, .str (.ofString "n") 1297, .str (.ofString "o") 1300, .str (.ofString "p") 1303, .str (.ofString "q") 1306, .str (.ofString "r") 1309, .str (.ofString "s") 1312, .str (.ofString "t") 1315, .str (.ofString "u") 1318, .str (.ofString "v") 1321, .str (.ofString "w") 1324, .str (.ofString "x") 1327, .str (.ofString "y") 1330, .str (.ofString "z") 1333, .str (.ofString "=7B") 687, .str (.ofString "=7C") 691, .str (.ofString "=7D") 695, .str (.ofString "=7E") 699, .str (.ofString "=7F") 703, .str (.ofString "=80") 707, .str (.ofString "=81") 711, .str (.ofString "=82") 715, .str (.ofString "=83") 719, .str (.ofString "=84") 723, .str (.ofString "=85") 727, .str (.ofString "=86") 731, .str (.ofString "=87") 735, .str (.ofString "=88") 739, .str (.ofString "=89") 743, .str (.ofString "=8A") 747, .str (.ofString "=8B") 751, .str (.ofString "=8C") 755, .str (.ofString "=8D") 759, .str (.ofString "=8E") 763, .str (.ofString "=8F") 767, .str (.ofString "=90") 771, .str (.ofString "=91") 775, .str (.ofString "=92") 779, .str (.ofString "=93") 783, .str (.ofString "=94") 787, .str (.ofString "=95") 791, .str (.ofString "=96") 795, .str (.ofString "=97") 799, .str (.ofString "=98") 803, .str (.ofString "=99") 807, .str (.ofString "=9A") 811, .str (.ofString "=9B") 815, .str (.ofString "=9C") 819, .str (.ofString "=9D") 823, .str (.ofString "=9E") 827, .str (.ofString "=9F") 831, .str (.ofString "=A0") 835, .str (.ofString "=A1") 839, .str (.ofString "=A2") 843, .str (.ofString "=A3") 847, .str (.ofString "=A4") 851, .str (.ofString "=A5") 855, .str (.ofString "=A6") 859, .str (.ofString "=A7") 863, .str (.ofString "=A8") 867, .str (.ofString "=A9") 871, .str (.ofString "=AA") 875, .str (.ofString "=AB") 879, .str (.ofString "=AC") 883, .str (.ofString "=AD") 887, .str (.ofString "=AE") 891, .str (.ofString "=AF") 895, .str (.ofString "=B0") 899, .str (.ofString "=B1") 903, .str (.ofString "=B2") 907, .str (.ofString "=B3") 911, .str (.ofString "=B4") 915, .str (.ofString "=B5") 919, .str (.ofString "=B6") 923, .str (.ofString "=B7") 927, .str (.ofString "=B8") 931, .str (.ofString "=B9") 935, .str (.ofString "=BA") 939, .str (.ofString "=BB") 943, .str (.ofString "=BC") 947, .str (.ofString "=BD") 951, .str (.ofString "=BE") 955, .str (.ofString "=BF") 959, .str (.ofString "=C0") 963, .str (.ofString "=C1") 967, .str (.ofString "=C2") 971, .str (.ofString "=C3") 975, .str (.ofString "=C4") 979, .str (.ofString "=C5") 983, .str (.ofString "=C6") 987, .str (.ofString "=C7") 991, .str (.ofString "=C8") 995, .str (.ofString "=C9") 999, .str (.ofString "=CA") 1003, .str (.ofString "=CB") 1007, .str (.ofString "=CC") 1011, .str (.ofString "=CD") 1015, .str (.ofString "=CE") 1019, .str (.ofString "=CF") 1023, .str (.ofString "=D0") 1027, .str (.ofString "=D1") 1031, .str (.ofString "=D2") 1035, .str (.ofString "=D3") 1039, .str (.ofString "=D4") 1043, .str (.ofString "=D5") 1047, .str (.ofString "=D6") 1051, .str (.ofString "=D7") 1055, .str (.ofString "=D8") 1059, .str (.ofString "=D9") 1063, .str (.ofString "=DA") 1067, .str (.ofString "=DB") 1071, .str (.ofString "=DC") 1075, .str (.ofString "=DD") 1079, .str (.ofString "=DE") 1083, .str (.ofString "=DF") 1087, .str (.ofString "=E0") 1091, .str (.ofString "=E1") 1095, .str (.ofString "=E2") 1099, .str (.ofString "=E3") 1103, .str (.ofString "=E4") 1107, .str (.ofString "=E5") 1111, .str (.ofString "=E6") 1115, .str (.ofString "=E7") 1119, .str (.ofString "=E8") 1123, .str (.ofString "=E9") 1127, .str (.ofString "=EA") 1131, .str (.ofString "=EB") 1135, .str (.ofString "=EC") 1139, .str (.ofString "=ED") 1143, .str (.ofString "=EE") 1147, .str (.ofString "=EF") 1151, .str (.ofString "=F0") 1155, .str (.ofString "=F1") 1159, .str (.ofString "=F2") 1163, .str (.ofString "=F3") 1167, .str (.ofString "=F4") 1171, .str (.ofString "=F5") 1175, .str (.ofString "=F6") 1179, .str (.ofString "=F7") 1183, .str (.ofString "=F8") 1187, .str (.ofString "=F9") 1191, .str (.ofString "=FA") 1195, .str (.ofString "=FB") 1199, .str (.ofString "=FC") 1203, .str (.ofString "=FD") 1207, .str (.ofString "=FE") 1211, .str (.ofString "=FF") 1215] } : Obj)
noncomputable def ob17 (P : Params) : Obj := ({ cls := .type "list", data := .seq ⟨listK⟩ } : Obj)
noncomputable def ob18 (P : Params) : Obj := ({ cls := .type "bytes_iterator", data := .fields #[.none, .int 67 0] } : Obj)
noncomputable def ob19 (P : Params) : Obj := ({ cls := .type "StopIteration", data := .fields #[.ref 26, .none, .none, .none, .bool false, .none] } : Obj)
noncomputable def ob20 (P : Params) : Obj := ({ cls := .type "dict", data := .dict #[⟨PyData.keyHash P (.ofString "__name__"), .str (.ofString "__name__") 165, .str (.ofString "cpy313.email.quoprimime") 1232⟩, ⟨PyData.keyHash P (.ofString "__doc__"), .str (.ofString "__doc__") 166, .none⟩, ⟨PyData.keyHash P (.ofString "__package__"), .str (.ofString "__package__") 167, .none⟩, ⟨PyData.keyHash P (.ofString "__loader__"), .str (.ofString "__loader__") 168, .builtin "__main__.__loader__#opaque"⟩, ⟨PyData.keyHash P (.ofString "__spec__"), .str (.ofString "__spec__") 169, .none⟩, ⟨PyData.keyHash P (.ofString "__annotations__"), .str (.ofString "__annotations__") 170, .ref 6⟩, ⟨PyData.keyHash P (.ofString "__builtins__"), .str (.ofString "__builtins__") 171, .ref 4⟩, ⟨PyData.keyHash P (.ofString "__file__"), .str (.ofString "__file__") 173, .str (.ofString "/claim/cut.py") 172⟩, ⟨PyData.keyHash P (.ofString "__cached__"), .str (.ofString "__cached__") 174, .none⟩, ⟨PyData.keyHash P (.ofString "NL"), .str (.ofString "NL") 188, .str (.ofString "\n") 187⟩, ⟨PyData.keyHash P (.ofString "_QUOPRI_MAP"), .str (.ofString "_QUOPRI_MAP") 1216, .ref 17⟩, ⟨PyData.keyHash P (.ofString "_QUOPRI_HEADER_MAP"), .str (.ofString "_QUOPRI_HEADER_MAP") 1217, .ref 22⟩, ⟨PyData.keyHash P (.ofString "_QUOPRI_BODY_MAP"), .str (.ofString "_QUOPRI_BODY_MAP") 1218, .ref 24⟩, ⟨PyData.keyHash P (.ofString "ascii_lowercase"), .str (.ofString "ascii_lowercase") 1220, .str (.ofString "abcdefghijklmnopqrstuvwxyz") 1219⟩, ⟨PyData.keyHash P (.ofString "ascii_uppercase"), .str (.ofString "ascii_uppercase") 1222, .str (.ofString "ABCDEFGHIJKLMNOPQRSTUVWXYZ") 1221⟩, ⟨PyData.keyHash P (.ofString "ascii_letters"), .str (.ofString "ascii_letters") 1224, .str (.ofString "abcdefghijklmnopqrstuvwxyzABCDEFGHIJKLMNOPQRSTUVWXYZ") 1223⟩, ⟨PyData.keyHash P (.ofString "digits"), .str (.ofString "digits") 1226, .str (.ofString "0123456789") 1225⟩, ⟨PyData.keyHash P (.ofString "hexdigits"), .str (.ofString "hexdigits") 1231, .str (.ofString "0123456789abcdefABCDEF") 1230⟩, ⟨PyData.keyHash P (.ofString "c"), .str (.ofString "c") 1242, .int 9 1728⟩] 19 } : Obj)
noncomputable def ob21 (P : Params) : Obj := ({ cls := .type "list", data := .seq #[.str (.ofString "=00") 195, .str (.ofString "=01") 199, .str (.ofString "=02") 203, .str (.ofString "=03") 207, .str (.ofString "=04") 211, .str (.ofString "=05") 215, .str (.ofString "=06") 219, .str (.ofString "=07") 223, .str (.ofString "=08") 227, .str (.ofString "\t") 1730, .str (.ofString "=0A") 235, .str (.ofString "=0B") 239, .str (.ofString "=0C") 243, .str (.ofString "=0D") 247, .str (.ofString "=0E") 251, .str (.ofString "=0F") 255, .str (.ofString "=10") 259, .str (.ofString "=11") 263, .str (.ofString "=12") 267, .str (.ofString "=13") 271, .str (.ofString "=14") 275, .str (.ofString "=15") 279, .str (.ofString "=16") 283, .str (.ofString "=17") 287, .str (.ofString "=18") 291, .str (.ofString "=19") 295, .str (.ofString "=1A") 299, .str (.ofString "=1B") 303, .str (.ofString "=1C") 307, .str (.ofString "=1D") 311, .str (.ofString "=1E") 315, .str (.ofString "=1F") 319, .str (.ofString " ") 1448, .str (.ofString "!") 1451, .str (.ofString "\"") 1454, .str (.ofString "#") 1457, .str (.ofString "$") 1460, .str (.ofString "%") 1463, .str (.ofString "&") 1466, .str (.ofString "'") 1469, .str (.ofString "(") 1472, .str (.ofString ")") 1475, .str (.ofString "*") 1478, .str (.ofString "+") 1481, .str (.ofString ",") 1484, .str (.ofString "-") 1487, .str (.ofString ".") 1490, .str (.ofString "/") 1493, .str (.ofString "0") 1496, .str (.ofString "1") 1499, .str (.ofString "2") 1502, .str (.ofString "3") 1505, .str (.ofString "4") 1508, .str (.ofString "5") 1511, .str (.ofString "6") 1514, .str (.ofString "7") 1517, .str (.ofString "8") 1520, .str (.ofString "9") 1523, .str (.ofString ":") 1526, .str (.ofString ";") 1529, .str (.ofString "<") 1532, .str (.ofString "=3D") 439, .str (.ofString ">") 1535, .str (.ofString "?") 1538, .str (.ofString "@") 1541, .str (.ofString "A") 1544, .str (.ofString "B") 1547, .str (.ofString "C") 1550, .str (.ofString "D") 1553, .str (.ofString "E") 1556, .str (.ofString "F") 1559, .str (.ofString "G") 1562, .str (.ofString "H") 1565, .str (.ofString "I") 1568, .str (.ofString "J") 1571, .str (.ofString "K") 1574, .str (.ofString "L") 1577, .str (.ofString "M") 1580, .str (.ofString "N") 1583, .str (.ofString "O") 1586, .str (.ofString "P") 1589, .str (.ofString "Q") 1592, .str (.ofString "R") 1595, .str (.ofString "S") 1598, .str (.ofString "T") 1601, .str (.ofString "U") 1604, .str (.ofString "V") 1607, .str (.ofString "W") 1610, .str (.ofString "X") 1613, .str (.ofString "Y") 1616, .str (.ofString "Z") 1619, .str (.ofString "[") 1622, .str (.ofString "\\") 1625, .str (.ofString "]") 1628, .str (.ofString "^") 1631, .str (.ofString "_") 1634, .str (.ofString "`") 1637, .str (.ofString "a") 1640, .str (.ofString "b") 1643, .str (.ofString "c") 1646, .str (.ofString "d") 1649, .str (.ofString "e") 1652, .str (.ofString "f") 1655, .str (.ofString "g") 1658, .str (.ofString "h") 1661, .str (.ofString "i") 1664, .str (.ofString "j") 1667, .str (.ofString "k") 1670, .str (.ofString "l") 1673, .str (.ofString "m") 1676, .str (.ofString "n") 1679, .str (.ofString "o") 1682, .str (.ofString "p") 1685, .str (.ofString "q") 1688, .str (.ofString "r") 1691, .str (.ofString "s") 1694, .str (.ofString "t") 1697, .str (.ofString "u") 1700, .str (.ofString "v") 1703, .str (.ofString "w") 1706, .str (.ofString "x") 1709, .str (.ofString "y") 1712, .str (.ofString "z") 1715, .str (.ofString "{") 1718, .str (.ofString "|") 1721, .str (.ofString "}") 1724, .str (.ofString "~") 1727, .str (.ofString "=7F") 703, .str (.ofString "=80") 707, .str (.ofString "=81") 711, .str (.ofString "=82") 715, .str (.ofString "=83") 719, .str (.ofString "=84") 723, .str (.ofString "=85") 727, .str (.ofString "=86") 731, .str (.ofString "=87") 735, .str (.ofString "=88") 739, .str (.ofString "=89") 743, .str (.ofString "=8A") 747, .str (.ofString "=8B") 751, .str (.ofString "=8C") 755, .str (.ofString "=8D") 759, .str (.ofString "=8E") 763, .str (.ofString "=8F") 767, .str (.ofString "=90") 771, .str (.ofString "=91") 775, .str (.ofString "=92") 779, .str (.ofString "=93") 783, .str (.ofString "=94") 787, .str (.ofString "=95") 791, .str (.ofString "=96") 795, .str (.ofString "=97") 799, .str (.ofString "=98") 803, .str (.ofString "=99") 807, .str (.ofString "=9A") 811, .str (.ofString "=9B") 815, .str (.ofString "=9C") 819, .str (.ofString "=9D") 823, .str (.ofString "=9E") 827, .str (.ofString "=9F") 831, .str (.ofString "=A0") 835, .str (.ofString "=A1") 839, .str (.ofString "=A2") 843, .str (.ofString "=A3") 847, .str (.ofString "=A4") 851, .str (.ofString "=A5") 855, .str (.ofString "=A6") 859, .str (.ofString "=A7") 863, .str (.ofString "=A8") 867, .str (.ofString "=A9") 871, .str (.ofString "=AA") 875, .str (.ofString "=AB") 879, .str (.ofString "=AC") 883, .str (.ofString "=AD") 887, .str (.ofString "=AE") 891, .str (.ofString "=AF") 895, .str (.ofString "=B0") 899, .str (.ofString "=B1") 903, .str (.ofString "=B2") 907, .str (.ofString "=B3") 911, .str (.ofString "=B4") 915, .str (.ofString "=B5") 919, .str (.ofString "=B6") 923, .str (.ofString "=B7") 927, .str (.ofString "=B8") 931, .str (.ofString "=B9") 935, .str (.ofString "=BA") 939, .str (.ofString "=BB") 943, .str (.ofString "=BC") 947, .str (.ofString "=BD") 951, .str (.ofString "=BE") 955, .str (.ofString "=BF") 959, .str (.ofString "=C0") 963, .str (.ofString "=C1") 967, .str (.ofString "=C2") 971, .str (.ofString "=C3") 975, .str (.ofString "=C4") 979, .str (.ofString "=C5") 983, .str (.ofString "=C6") 987, .str (.ofString "=C7") 991, .str (.ofString "=C8") 995, .str (.ofString "=C9") 999, .str (.ofString "=CA") 1003, .str (.ofString "=CB") 1007, .str (.ofString "=CC") 1011, .str (.ofString "=CD") 1015, .str (.ofString "=CE") 1019, .str (.ofString "=CF") 1023, .str (.ofString "=D0") 1027, .str (.ofString "=D1") 1031, .str (.ofString "=D2") 1035, .str (.ofString "=D3") 1039, .str (.ofString "=D4") 1043, .str (.ofString "=D5") 1047, .str (.ofString "=D6") 1051, .str (.ofString "=D7") 1055, .str (.ofString "=D8") 1059, .str (.ofString "=D9") 1063, .str (.ofString "=DA") 1067, .str (.ofString "=DB") 1071, .str (.ofString "=DC") 1075, .str (.ofString "=DD") 1079, .str (.ofString "=DE") 1083, .str (.ofString "=DF") 1087, .str (.ofString "=E0") 1091, .str (.ofString "=E1") 1095, .str (.ofString "=E2") 1099, .str (.ofString "=E3") 1103, .str (.ofString "=E4") 1107, .str (.ofString "=E5") 1111, .str (.ofString "=E6") 1115, .str (.ofString "=E7") 1119, .str (.ofString "=E8") 1123, .str (.ofString "=E9") 1127, .str (.ofString "=EA") 1131, .str (.ofString "=EB") 1135, .str (.ofString "=EC") 1139, .str (.ofString "=ED") 1143, .str (.ofString "=EE") 1147, .str (.ofString "=EF") 1151, .str (.ofString "=F0") 1155, .str (.ofString "=F1") 1159, .str (.ofString "=F2") 1163, .str (.ofString "=F3") 1167, .str (.ofString "=F4") 1171, .str (.ofString "=F5") 1175, .str (.ofString "=F6") 1179, .str (.ofString "=F7") 1183, .str (.ofString "=F8") 1187, .str (.ofString "=F9") 1191, .str (.ofString "=FA") 1195, .str (.ofString "=FB") 1199, .str (.ofString "=FC") 1203, .str (.ofString "=FD") 1207, .str (.ofString "=FE") 1211, .str (.ofString "=FF") 1215] } : Obj)
noncomputable def ob22 (P : Params) : Obj := ({ cls := .type "bytes_iterator", data := .fields #[.none, .int 95 0] } : Obj)
noncomputable def ob23 (P : Params) : Obj := ({ cls := .type "StopIteration", data := .fields #[.ref 29, .none, .none, .none, .bool false, .none] } : Obj)
noncomputable def heapA (P : Params) : Heap := ⟨⟨[boot_o_0 P, boot_o_1 P, boot_o_2 P, boot_o_3 P, boot_o_4 P, boot_o_5 P, boot_o_6 P, boot_o_7 P, boot_o_8 P, boot_o_9 P, boot_o_10 P, ob0 P, ob1 P, ob2 P, ob3 P]⟩, boot_heap P |>.life⟩
noncomputable def heapL (P : Params) (n : Nat) : Heap := ⟨⟨[boot_o_0 P, boot_o_1 P, boot_o_2 P, ob4 P, boot_o_4 P, boot_o_5 P, boot_o_6 P, boot_o_7 P, boot_o_8 P, boot_o_9 P, boot_o_10 P, ob0 P, ob1 P, ob2 P, ob3 P, ob5 P, ob6 P n, ob7 P n, ob8 P n]⟩, boot_heap P |>.life⟩
noncomputable def heapB (P : Params) : Heap := ⟨⟨[boot_o_0 P, boot_o_1 P, boot_o_2 P, ob9 P, boot_o_4 P, boot_o_5 P, boot_o_6 P, boot_o_7 P, boot_o_8 P, boot_o_9 P, boot_o_10 P, ob0 P, ob1 P, ob2 P, ob3 P, ob5 P, ob10 P, ob11 P, ob12 P, ob0 P, ob13 P]⟩, boot_heap P |>.life⟩
noncomputable def heapM (P : Params) : Heap := ⟨⟨[boot_o_0 P, boot_o_1 P, boot_o_2 P, ob14 P, boot_o_4 P, boot_o_5 P, boot_o_6 P, boot_o_7 P, boot_o_8 P, boot_o_9 P, boot_o_10 P, ob0 P, ob1 P, ob2 P, ob3 P, ob5 P, ob10 P, ob11 P, ob12 P, ob0 P, ob13 P, ob15 P, ob16 P, ob15 P, ob17 P, ob18 P, ob0 P, ob19 P]⟩, boot_heap P |>.life⟩
noncomputable def heapC (P : Params) : Heap := ⟨⟨[boot_o_0 P, boot_o_1 P, boot_o_2 P, ob20 P, boot_o_4 P, boot_o_5 P, boot_o_6 P, boot_o_7 P, boot_o_8 P, boot_o_9 P, boot_o_10 P, ob0 P, ob1 P, ob2 P, ob3 P, ob5 P, ob10 P, ob11 P, ob12 P, ob0 P, ob13 P, ob15 P, ob16 P, ob15 P, ob21 P, ob18 P, ob0 P, ob19 P, ob22 P, ob0 P, ob23 P]⟩, boot_heap P |>.life⟩
noncomputable abbrev PK : Program := PySem.Challenge.pw_ku0016_01
noncomputable abbrev envK : Env := { scope := PK.main.scope, locals := mainNs, globals := mainNs, cells := [], code := .ref 13, frame := some 14 }
noncomputable abbrev bodyK : List Stmt := behindTheImports PK
noncomputable abbrev codeK : Code := .body bodyK envK
noncomputable abbrev stmt1 : List Stmt := bodyK.take 2
noncomputable abbrev stmt2 : List Stmt := (bodyK.drop 2).take 10
noncomputable abbrev stmt3 : List Stmt := (bodyK.drop 12).take 1
noncomputable abbrev stmt4 : List Stmt := bodyK.drop 13
noncomputable abbrev posO : Pos := ⟨0,0,0,0⟩
noncomputable abbrev annK : Option Value := some (.ref 6)
noncomputable abbrev stO (w : World) (os : OsState) : Shared := ⟨boot_heap w.params, Array.mk [], boot_drawn, boot_toks, os⟩
noncomputable abbrev stA (w : World) (os : OsState) : Shared := ⟨heapA w.params, Array.mk [], boot_drawn, 187, os⟩
noncomputable abbrev stL (n : Nat) (w : World) (os : OsState) : Shared := ⟨heapL w.params n, Array.mk [], boot_drawn, 192 + 4 * n, os⟩
noncomputable abbrev stB (w : World) (os : OsState) : Shared := ⟨heapB w.params, Array.mk [], boot_drawn, 1217, os⟩
noncomputable abbrev stM (w : World) (os : OsState) : Shared := ⟨heapM w.params, Array.mk [], boot_drawn, 1445, os⟩
noncomputable abbrev stC (w : World) (os : OsState) : Shared := ⟨heapC w.params, Array.mk [], boot_drawn, 1731, os⟩
noncomputable abbrev wSG (w : World) (b : Bool) : World := w.withFollow "special-get-raises" b
noncomputable abbrev wCT (w : World) (b : Bool) : World := w.withFollow "comprehension-iter-twice" b
noncomputable abbrev thA (w : World) (_ : OsState) : Thread := piecesOf stmt1 envK codeK posO [topFrame posO]
noncomputable abbrev thB (w : World) (_ : OsState) : Thread := piecesOf stmt2 envK codeK ⟨2,0,2,11⟩ [topFrame posO]
noncomputable abbrev thM (w : World) (_ : OsState) : Thread := piecesOf stmt3 envK codeK ⟨13,0,13,28⟩ [topFrame posO]
noncomputable abbrev thC (w : World) (_ : OsState) : Thread := restOf stmt4 envK codeK ⟨14,9,14,110⟩ [topFrame posO]
noncomputable abbrev SegR (n : Nat) (w : World) (s : Shared) (t : Thread) (r : Flow × Shared × Code × Pos) : Prop := segRun treeTable PK w 11 annK 1 n s t = some r
noncomputable abbrev SegG (n : Nat) (w : World) (s : Shared) (t : Thread) (s' : Shared) (t' : Thread) : Prop := segGo treeTable PK w 11 annK 1 n s t = some (s', t')
noncomputable def cut (n : Nat) (w : World) (s : Shared) (t : Thread) : Shared × Thread := Option.getD (Fast.tw3277212676724774461 Fast.tw14364793385576792824 PK w 11 annK 1 n s t) (s, t)
noncomputable def cutT (n : Nat) (w : World) (s : Shared) (t : Thread) : Shared × Thread := Option.getD (Fast.tw15667345088766844465 Fast.tw14364793385576792824 PK w 11 annK n s t) (s, t)
noncomputable abbrev thL (w : World) (os : OsState) : Thread := (cut 88 (wCT (wSG w true) true) (stA (wCT (wSG w true) true) os) (thA w os)).2
noncomputable abbrev cutX (w : World) (os : OsState) : Shared × Thread := cut 180 (wSG w true) (stB (wSG w true) os) (thB w os)
noncomputable abbrev cutY (w : World) (os : OsState) : Shared × Thread := cut 8 (wSG w true) (stM (wSG w true) os) (thM w os)
noncomputable abbrev cutZ (w : World) (os : OsState) : Shared × Thread := cutT 95 (wSG w true) (stC (wSG w true) os) (thC w os)
theorem segRun_more {tb : String → Option Builtin} {p : Program} {w : World} {n₀ : Nat} {ann : Option Value} {b : Nat} (k : Nat) : ∀ (n : Nat) (s : Shared) (t : Thread) (r : Flow × Shared × Code × Pos), segRun tb p w n₀ ann b n s t = some r → segRun tb p w n₀ ann b (n + k) s t = some r
 | 0, _, _, _, h => by simp [segRun] at h
 | n + 1, s, t, r, h => by
  rw [show n + 1 + k = n + k + 1 by omega]
  unfold segRun at h ⊢
  cases he : endAt b t with
  | some f => rw [he] at h; exact h
  | none =>
   rw [he] at h
   cases ho : stepOk n₀ ann t with
   | false => rw [ho] at h; cases h
   | true =>
    rw [ho] at h
    cases hs : step (denote tb) p w s t with
    | halt o x => rw [hs] at h; cases h
    | go s' t' => rw [hs] at h; exact segRun_more k n s' t' r h
theorem preK (w : World) (os : OsState) : topGo treeTable PK w 11 annK 12 (stO w os) (topStub PK) = some (stA w os, ⟨denote treeTable codeK, codeK, posO, [topFrame posO]⟩) := by
 rw [Fast.te15667345088766844465, Fast.te14364793385576792824, Fast.te11892475500146522536]
 kernel_rfl
theorem blockK (w : World) (os : OsState) : segRun treeTable PK w 11 annK 1 1 (stA w os) (blockOf bodyK envK codeK posO [topFrame posO]) = some (.next, stA w os, codeK, posO) := by
 rw [Fast.te14374325043358763698, Fast.te14364793385576792824]
 kernel_rfl
theorem wayA_ff (w : World) (os : OsState) : SegG 98 (wCT (wSG w false) false) (stA (wCT (wSG w false) false) os) (thA w os) (stL 1 (wCT (wSG w false) false) os) (thL (wCT (wSG w false) false) os) := by
 unfold SegG
 rw [Fast.te3277212676724774461, Fast.te14364793385576792824]
 kernel_rfl
theorem wayA_ft (w : World) (os : OsState) : SegG 88 (wCT (wSG w false) true) (stA (wCT (wSG w false) true) os) (thA w os) (stL 1 (wCT (wSG w false) true) os) (thL (wCT (wSG w false) true) os) := by
 unfold SegG
 rw [Fast.te3277212676724774461, Fast.te14364793385576792824]
 kernel_rfl
theorem wayA_tf (w : World) (os : OsState) : SegG 98 (wCT (wSG w true) false) (stA (wCT (wSG w true) false) os) (thA w os) (stL 1 (wCT (wSG w true) false) os) (thL (wCT (wSG w true) false) os) := by
 unfold SegG
 rw [Fast.te3277212676724774461, Fast.te14364793385576792824]
 kernel_rfl
theorem wayA_tt (w : World) (os : OsState) : SegG 88 (wCT (wSG w true) true) (stA (wCT (wSG w true) true) os) (thA w os) (stL 1 (wCT (wSG w true) true) os) (thL (wCT (wSG w true) true) os) := by
 unfold SegG
 rw [Fast.te3277212676724774461, Fast.te14364793385576792824]
 kernel_rfl
theorem turn_1 (w : World) (os : OsState) : SegG 1184 w (stL 1 w os) (thL w os) (stL 33 w os) (thL w os) := by
 unfold SegG
 rw [Fast.te3277212676724774461, Fast.te14364793385576792824]
 kernel_rfl
theorem turn_33 (w : World) (os : OsState) : SegG 1184 w (stL 33 w os) (thL w os) (stL 65 w os) (thL w os) := by
 unfold SegG
 rw [Fast.te3277212676724774461, Fast.te14364793385576792824]
 kernel_rfl
theorem turn_65 (w : World) (os : OsState) : SegG 1184 w (stL 65 w os) (thL w os) (stL 97 w os) (thL w os) := by
 unfold SegG
 rw [Fast.te3277212676724774461, Fast.te14364793385576792824]
 kernel_rfl
theorem turn_97 (w : World) (os : OsState) : SegG 1184 w (stL 97 w os) (thL w os) (stL 129 w os) (thL w os) := by
 unfold SegG
 rw [Fast.te3277212676724774461, Fast.te14364793385576792824]
 kernel_rfl
theorem turn_129 (w : World) (os : OsState) : SegG 1184 w (stL 129 w os) (thL w os) (stL 161 w os) (thL w os) := by
 unfold SegG
 rw [Fast.te3277212676724774461, Fast.te14364793385576792824]
 kernel_rfl
theorem turn_161 (w : World) (os : OsState) : SegG 1184 w (stL 161 w os) (thL w os) (stL 193 w os) (thL w os) := by
 unfold SegG
 rw [Fast.te3277212676724774461, Fast.te14364793385576792824]
 kernel_rfl
theorem turn_193 (w : World) (os : OsState) : SegG 1184 w (stL 193 w os) (thL w os) (stL 225 w os) (thL w os) := by
 unfold SegG
 rw [Fast.te3277212676724774461, Fast.te14364793385576792824]
 kernel_rfl
theorem turn_225 (w : World) (os : OsState) : SegG 1110 w (stL 225 w os) (thL w os) (stL 255 w os) (thL w os) := by
 unfold SegG
 rw [Fast.te3277212676724774461, Fast.te14364793385576792824]
 kernel_rfl
theorem turn_255 (w : World) (os : OsState) : SegR 70 w (stL 255 w os) (thL w os) (.next, stB w os, codeK, ⟨2,0,2,11⟩) := by
 unfold SegR
 rw [Fast.te14374325043358763698, Fast.te14364793385576792824]
 kernel_rfl
theorem turns_225 (w : World) (os : OsState) : SegR (1110 + (70)) w (stL 225 w os) (thL w os) (.next, stB w os, codeK, ⟨2,0,2,11⟩) := seg_go (n := 1110) (N := 70) (turn_225 w os) (turn_255 w os)
theorem turns_193 (w : World) (os : OsState) : SegR (1184 + (1110 + (70))) w (stL 193 w os) (thL w os) (.next, stB w os, codeK, ⟨2,0,2,11⟩) := seg_go (n := 1184) (N := 1110 + (70)) (turn_193 w os) (turns_225 w os)
theorem turns_161 (w : World) (os : OsState) : SegR (1184 + (1184 + (1110 + (70)))) w (stL 161 w os) (thL w os) (.next, stB w os, codeK, ⟨2,0,2,11⟩) := seg_go (n := 1184) (N := 1184 + (1110 + (70))) (turn_161 w os) (turns_193 w os)
theorem turns_129 (w : World) (os : OsState) : SegR (1184 + (1184 + (1184 + (1110 + (70))))) w (stL 129 w os) (thL w os) (.next, stB w os, codeK, ⟨2,0,2,11⟩) := seg_go (n := 1184) (N := 1184 + (1184 + (1110 + (70)))) (turn_129 w os) (turns_161 w os)
theorem turns_97 (w : World) (os : OsState) : SegR (1184 + (1184 + (1184 + (1184 + (1110 + (70)))))) w (stL 97 w os) (thL w os) (.next, stB w os, codeK, ⟨2,0,2,11⟩) := seg_go (n := 1184) (N := 1184 + (1184 + (1184 + (1110 + (70))))) (turn_97 w os) (turns_129 w os)
theorem turns_65 (w : World) (os : OsState) : SegR (1184 + (1184 + (1184 + (1184 + (1184 + (1110 + (70))))))) w (stL 65 w os) (thL w os) (.next, stB w os, codeK, ⟨2,0,2,11⟩) := seg_go (n := 1184) (N := 1184 + (1184 + (1184 + (1184 + (1110 + (70)))))) (turn_65 w os) (turns_97 w os)
theorem turns_33 (w : World) (os : OsState) : SegR (1184 + (1184 + (1184 + (1184 + (1184 + (1184 + (1110 + (70)))))))) w (stL 33 w os) (thL w os) (.next, stB w os, codeK, ⟨2,0,2,11⟩) := seg_go (n := 1184) (N := 1184 + (1184 + (1184 + (1184 + (1184 + (1110 + (70))))))) (turn_33 w os) (turns_65 w os)
theorem turns_1 (w : World) (os : OsState) : SegR (1184 + (1184 + (1184 + (1184 + (1184 + (1184 + (1184 + (1110 + (70))))))))) w (stL 1 w os) (thL w os) (.next, stB w os, codeK, ⟨2,0,2,11⟩) := seg_go (n := 1184) (N := 1184 + (1184 + (1184 + (1184 + (1184 + (1184 + (1110 + (70)))))))) (turn_1 w os) (turns_33 w os)
theorem seg1_ff (w : World) (os : OsState) : SegR (98 + (1184 + (1184 + (1184 + (1184 + (1184 + (1184 + (1184 + (1110 + (70)))))))))) (wCT (wSG w false) false) (stA (wCT (wSG w false) false) os) (thA w os) (.next, stB (wCT (wSG w false) false) os, codeK, ⟨2,0,2,11⟩) := seg_go (n := 98) (N := 1184 + (1184 + (1184 + (1184 + (1184 + (1184 + (1184 + (1110 + (70))))))))) (wayA_ff w os) (turns_1 (wCT (wSG w false) false) os)
theorem seg1_ft (w : World) (os : OsState) : SegR ((88 + (1184 + (1184 + (1184 + (1184 + (1184 + (1184 + (1184 + (1110 + (70)))))))))) + 10) (wCT (wSG w false) true) (stA (wCT (wSG w false) true) os) (thA w os) (.next, stB (wCT (wSG w false) true) os, codeK, ⟨2,0,2,11⟩) := segRun_more 10 (88 + (1184 + (1184 + (1184 + (1184 + (1184 + (1184 + (1184 + (1110 + (70)))))))))) _ _ _ (seg_go (n := 88) (N := 1184 + (1184 + (1184 + (1184 + (1184 + (1184 + (1184 + (1110 + (70))))))))) (wayA_ft w os) (turns_1 (wCT (wSG w false) true) os))
theorem seg1_tf (w : World) (os : OsState) : SegR (98 + (1184 + (1184 + (1184 + (1184 + (1184 + (1184 + (1184 + (1110 + (70)))))))))) (wCT (wSG w true) false) (stA (wCT (wSG w true) false) os) (thA w os) (.next, stB (wCT (wSG w true) false) os, codeK, ⟨2,0,2,11⟩) := seg_go (n := 98) (N := 1184 + (1184 + (1184 + (1184 + (1184 + (1184 + (1184 + (1110 + (70))))))))) (wayA_tf w os) (turns_1 (wCT (wSG w true) false) os)
theorem seg1_tt (w : World) (os : OsState) : SegR ((88 + (1184 + (1184 + (1184 + (1184 + (1184 + (1184 + (1184 + (1110 + (70)))))))))) + 10) (wCT (wSG w true) true) (stA (wCT (wSG w true) true) os) (thA w os) (.next, stB (wCT (wSG w true) true) os, codeK, ⟨2,0,2,11⟩) := segRun_more 10 (88 + (1184 + (1184 + (1184 + (1184 + (1184 + (1184 + (1184 + (1110 + (70)))))))))) _ _ _ (seg_go (n := 88) (N := 1184 + (1184 + (1184 + (1184 + (1184 + (1184 + (1184 + (1110 + (70))))))))) (wayA_tt w os) (turns_1 (wCT (wSG w true) true) os))
theorem seg1_n1 : 98 + (1184 + (1184 + (1184 + (1184 + (1184 + (1184 + (1184 + (1110 + (70))))))))) = 9566 := rfl
theorem seg1_n2 : (88 + (1184 + (1184 + (1184 + (1184 + (1184 + (1184 + (1184 + (1110 + (70)))))))))) + 10 = 9566 := rfl
noncomputable abbrev Seg1 (w : World) : Prop := ∀ os, SegR 9566 w (stA w os) (thA w os) (.next, stB w os, codeK, ⟨2,0,2,11⟩)
theorem seg1 (w : World) : Seg1 w :=
 byRow2 (P := Seg1) "comprehension-iter-twice" (byRow2 (P := fun w => Seg1 (wCT w false)) "special-get-raises" (fun w os => seg1_n1 ▸ seg1_ff w os) (fun w os => seg1_n1 ▸ seg1_tf w os))
  (byRow2 (P := fun w => Seg1 (wCT w true)) "special-get-raises" (fun w os => seg1_n2 ▸ seg1_ft w os) (fun w os => seg1_n2 ▸ seg1_tt w os)) w
theorem wayX_f (w : World) (os : OsState) : SegG 180 (wSG w false) (stB (wSG w false) os) (thB w os) (cutX (wSG w false) os).1 (cutX (wSG w false) os).2 := by
 unfold SegG
 rw [Fast.te3277212676724774461, Fast.te14364793385576792824]
 kernel_rfl
theorem wayX_t (w : World) (os : OsState) : SegG 180 (wSG w true) (stB (wSG w true) os) (thB w os) (cutX (wSG w true) os).1 (cutX (wSG w true) os).2 := by
 unfold SegG
 rw [Fast.te3277212676724774461, Fast.te14364793385576792824]
 kernel_rfl
theorem restX (w : World) (os : OsState) : SegR 3200 w (cutX w os).1 (cutX w os).2 (.next, stM w os, codeK, ⟨13,0,13,28⟩) := by
 unfold SegR
 rw [Fast.te14374325043358763698, Fast.te14364793385576792824]
 kernel_rfl
noncomputable abbrev SegX (w : World) : Prop := ∀ os, SegR (180 + 3200) w (stB w os) (thB w os) (.next, stM w os, codeK, ⟨13,0,13,28⟩)
theorem segX (w : World) : SegX w :=
 byRow2 (P := SegX) "special-get-raises" (fun w os => seg_go (wayX_f w os) (restX _ os)) (fun w os => seg_go (wayX_t w os) (restX _ os)) w
theorem wayY_f (w : World) (os : OsState) : SegG 8 (wSG w false) (stM (wSG w false) os) (thM w os) (cutY (wSG w false) os).1 (cutY (wSG w false) os).2 := by
 unfold SegG
 rw [Fast.te3277212676724774461, Fast.te14364793385576792824]
 kernel_rfl
theorem wayY_t (w : World) (os : OsState) : SegG 8 (wSG w true) (stM (wSG w true) os) (thM w os) (cutY (wSG w true) os).1 (cutY (wSG w true) os).2 := by
 unfold SegG
 rw [Fast.te3277212676724774461, Fast.te14364793385576792824]
 kernel_rfl
theorem restY (w : World) (os : OsState) : SegR 4400 w (cutY w os).1 (cutY w os).2 (.next, stC w os, codeK, ⟨14,9,14,110⟩) := by
 unfold SegR
 rw [Fast.te14374325043358763698, Fast.te14364793385576792824]
 kernel_rfl
noncomputable abbrev SegY (w : World) : Prop := ∀ os, SegR (8 + 4400) w (stM w os) (thM w os) (.next, stC w os, codeK, ⟨14,9,14,110⟩)
theorem segY (w : World) : SegY w :=
 byRow2 (P := SegY) "special-get-raises" (fun w os => seg_go (wayY_f w os) (restY _ os)) (fun w os => seg_go (wayY_t w os) (restY _ os)) w
theorem wayZ_f (w : World) (os : OsState) : topGo treeTable PK (wSG w false) 11 annK 95 (stC (wSG w false) os) (thC w os) = some ((cutZ (wSG w false) os).1, (cutZ (wSG w false) os).2) := by
 rw [Fast.te15667345088766844465, Fast.te14364793385576792824]
 kernel_rfl
theorem wayZ_t (w : World) (os : OsState) : topGo treeTable PK (wSG w true) 11 annK 95 (stC (wSG w true) os) (thC w os) = some ((cutZ (wSG w true) os).1, (cutZ (wSG w true) os).2) := by
 rw [Fast.te15667345088766844465, Fast.te14364793385576792824]
 kernel_rfl
theorem lastK (w : World) (os : OsState) : (topRun treeTable PK w 11 annK 1600 (cutZ w os).1 (cutZ w os).2).map (fun s : Shared => ((staticsOk (importedModules PK.main.body) (boot_heap w.params) s.heap && namesBound PK s.heap && gensDone s && laidKept (boot_heap w.params) s.heap), openSeen viewK looseK (importedModules PK.main.body) (fun s => xlAt viewK litK s && recOk (RowW.records PySem.Challenge.rw_ku0016_01.row.toRowW) s) true s, hookK.obs s)) = some (true, openGood viewK looseK, hookK.val w) := by
 rw [Fast.te14082659384304107361, Fast.te14364793385576792824, Fast.te4187177175401517315]
 kernel_rfl
noncomputable abbrev Last (w : World) : Prop := ∀ os, (topRun treeTable PK w 11 annK (95 + 1600) (stC w os) (thC w os)).map (fun s : Shared => ((staticsOk (importedModules PK.main.body) (boot_heap w.params) s.heap && namesBound PK s.heap && gensDone s && laidKept (boot_heap w.params) s.heap), openSeen viewK looseK (importedModules PK.main.body) (fun s => xlAt viewK litK s && recOk (RowW.records PySem.Challenge.rw_ku0016_01.row.toRowW) s) true s, hookK.obs s)) = some (true, openGood viewK looseK, hookK.val w)
theorem last_way (w : World) (h : ∀ os, topGo treeTable PK w 11 annK 95 (stC w os) (thC w os) = some ((cutZ w os).1, (cutZ w os).2)) : Last w := fun os => by
 obtain ⟨r, hr, hl⟩ := Option.map_eq_some_iff.mp (lastK w os)
 rw [go_top (h os) hr]
 exact congrArg some hl
theorem last (w : World) : Last w := byRow2 (P := Last) "special-get-raises" (fun w => last_way _ (wayZ_f w)) (fun w => last_way _ (wayZ_t w)) w
theorem split1 : bodyK = stmt1 ++ (stmt2 ++ (stmt3 ++ stmt4)) := by
 have h : stmt4 = (bodyK.drop 12).drop 1 := by rw [List.drop_drop]
 have h2 : bodyK.drop 12 = (bodyK.drop 2).drop 10 := by rw [List.drop_drop]
 rw [h, List.take_append_drop, h2, List.take_append_drop, List.take_append_drop]
theorem restK (w : World) (os : OsState) (r : Shared) (h : topRun treeTable PK w 11 annK (95 + 1600) (stC w os) (thC w os) = some r) :
  topRun treeTable PK w 11 annK (12 + (1 + (9566 + ((180 + 3200) + ((8 + 4400) + (95 + 1600)))))) (stO w os) (topStub PK) = some r := by
 refine go_top (preK w os) (piece_block (blockK w os) ?_)
 have k := piece_app (seg1 w os) (piece_app (segX w os) (piece_app (segY w os) h))
 rw [← split1] at k
 exact k
theorem bootE (w : World) : importEnds treeTable (opening PK) w 600 (start (opening PK)).1 (start (opening PK)).2 = some ⟨boot_heap w.params, Array.mk [], boot_drawn, boot_toks, (start (opening PK)).1.os⟩ := by
 rw [Fast.te10274390034422433532, Fast.te14364793385576792824, Fast.te1435165496053646825]
 kernel_rfl
theorem bootF (w : World) : (fun os => (fenceModules? PK ⟨boot_heap w.params, Array.mk [], boot_drawn, boot_toks, os⟩).map (fun s => (s.heap, s.gens, s.drawn, s.toks))) = fun _ => some (boot_heap w.params, Array.mk [], boot_drawn, boot_toks) := by kernel_rfl
theorem sizeK (w : World) : ((boot_heap w.params).isNs mainGlobals && (Array.mk [] : Array GenState).size == 0, (boot_heap w.params).objs.size, (boot_heap w.params).nsMap mainGlobals "__annotations__") = (true, 11, annK) := by kernel_rfl
theorem leftP : LeftO PK viewK looseK (fun s => xlAt viewK litK s && recOk (RowW.records PySem.Challenge.rw_ku0016_01.row.toRowW) s) hookK.obs hookK.val 35906 := fun w => by
 obtain ⟨⟨h, gs, d, k, os⟩, e, e'⟩ := Option.map_eq_some_iff.mp (open_cut (p := PK) (N := 35906) (M := 600) (H₀ := boot_heap) (g₀ := Array.mk []) (d₀ := boot_drawn) (k₀ := boot_toks) bootE (by decide) bootF w)
 obtain ⟨rfl, rfl, rfl, rfl⟩ : h = boot_heap w.params ∧ gs = Array.mk [] ∧ d = boot_drawn ∧ k = boot_toks := by simpa using e'
 obtain ⟨z1, z2, z3⟩ : _ ∧ _ ∧ _ := by simpa only [Prod.mk.injEq] using sizeK w
 obtain ⟨r, hr, hl⟩ := Option.map_eq_some_iff.mp (last w os)
 have run := topRun_mono 16844 _ _ _ _ (restK w os r hr)
 obtain ⟨l1, l2, l3⟩ : _ ∧ _ ∧ _ := by simpa only [Prod.mk.injEq] using hl
 have t : topFrom treeTable PK w 35906 ⟨boot_heap w.params, Array.mk [], boot_drawn, boot_toks, os⟩ = some r := by
  unfold topFrom
  dsimp only
  rw [z1, z2, z3, run]
  show (match staticsOk (importedModules PK.main.body) (boot_heap w.params) r.heap && namesBound PK r.heap && gensDone r && laidKept (boot_heap w.params) r.heap with | true => some r | false => none) = _
  rw [l1]
 unfold openEnds
 rw [e]
 show (topFrom treeTable PK w 35906 _).map _ = _
 rw [t]
 exact congrArg some (Prod.ext l2 l3)
theorem leftK : LeftO PySem.Challenge.rw_ku0016_01.row.toRowW.prog viewK looseK (fun s => xlAt viewK litK s && recOk (RowW.records PySem.Challenge.rw_ku0016_01.row.toRowW) s) hookK.obs hookK.val 35906 := leftP
end Mine
set_option maxHeartbeats 200000
local macro_rules | `(tactic| walk_at $s9:str) => `(tactic| k_extra $s9)
set_option hygiene false in
local macro_rules | `(tactic| walk_at "f") => `(tactic| first | (fail_if_success k_fold) | (refine Mine.foldQE ?_; intro qk ek))
set_option hygiene false in
local macro_rules | `(tactic| walk_at "~") => `(tactic| (repeat' (first | (k_unfold; (try clear qk); (try clear ek); (first | (with_reducible show wpAny _ _ (subscriptTail _ (PySem.Expr.Slice _ _ _ _) _ _) _ _ _) | (try dsimp only [List.nil_append, List.cons_append]))) | (k_end; wrow_close) | (walk1 <;> (first | (with_reducible show wpAny _ _ (eval (PySem.Expr.Name _ _) _) _ _ _) | (with_reducible show wpAny _ _ (eval (PySem.Expr.Constant _ _ _) _) _ _ _) | walk_at "f" | skip)) | (dsimp only; walk1) | (leave1; (try dsimp only)) | fail "no step")))
local macro_rules | `(tactic| walk_at "m") => `(tactic| (k_whole; with_reducible (first | assumption | exact List.mem_cons_self .. | (refine List.mem_cons_of_mem _ ?_; walk_at "m") | (refine List.mem_append_left _ ?_; walk_at "m") | (refine List.mem_append_right _ ?_; walk_at "m"))))
local macro_rules | `(tactic| k_all) => `(tactic| with_reducible assumption)
local macro_rules | `(tactic| walk_at "n") => `(tactic| ((repeat' (with_reducible first | exact Mine.sN | refine Mine.sC ?_ ?_ | refine Mine.sA ?_ ?_ | walk_at "m" | (intro p9 h9; walk_at "m"))); all_goals k_mem))
local macro_rules | `(tactic| walk_at "h") => `(tactic| ((try dsimp only); (repeat' (first | exact Mine.kN | refine Mine.kC ?_ ?_ | rfl)); done))
local macro_rules | `(tactic| walk_at "o") => `(tactic| ((first | refine Mine.offL ?_ | refine Mine.offW ?_); (repeat' (first | with_reducible exact Mine.offR | refine Mine.offS (by exact rfl) ?_ | refine Mine.offI (by exact rfl) ?_ | refine Mine.offU (by exact rfl) ?_)); done))
section
namespace Mine
noncomputable abbrev Ctr (w : World) (f : Addr) (d u : Nat) (vs : List Value) (Pre : Heap → Prop) (Post : Value → List (Addr × Obj) → Prop) : Prop :=
 ∀ (p : Program) (loose : List Str) (mean : ExcName → Option Value) (mg mb : Str → Option Value) (dp un : Nat) (gd : Option (List Code)) (cn : Str) (cs : Scope) (a : Addr) (ccd : Value) (cl : List (Str × Addr)) (outer : List Env) (A₀ : Around) (base h₀ : Heap) (L : Addr) (m : Str → Option Value) (news : List (Addr × Obj)) (s : Shared) (Q E : Value → Shared → Prop),
  Below A₀ base outer h₀ → Fr h₀ L s.heap m → (Mine.heapK w.params).In h₀ → News h₀ L s.heap news → Top p loose mean mg mb h₀ → cs.kind = .function → Pre s.heap → dp + d < recursionLimit → un + u < cLine →
  (∀ v tl h' tk', Post v tl → Fr h₀ L h' m → News h₀ L h' (tl ++ news) → Q v { s with heap := h', toks := tk' }) →
  wpAny (model PySem.Challenge.rw_ku0016_01.row.prog w) (ktrTop dp un gd cn cs L a ccd cl outer) (call (.ref f) vs) Q E s
theorem lookup_kst (l : List (Str × Value)) (y : Str) : List.lookup y l = kstB (fun _ => none) l y := by
 induction l with
 | nil => rfl
 | cons p l ih =>
  obtain ⟨a, v⟩ := p
  show List.lookup y ((a, v) :: l) = if y = a then some v else kstB (fun _ => none) l y
  by_cases h : y = a
  ·subst h; simp [List.lookup]
  ·rw [if_neg h, ← ih]
   have : (y == a) = false := by simp [h]
   simp only [List.lookup, this]
theorem fr_args {h₀ h : Heap} {L : Addr} {l l' : List (Str × Value)} (F : Fr h₀ L h (fun y => List.lookup y l)) (hl : l = l') : Fr h₀ L h (kstB (fun _ => none) l') := by
 subst hl
 have e : (fun y => List.lookup y l) = kstB (fun _ => none) l := funext (lookup_kst l)
 rw [← e]; exact F
end Mine
end
section
namespace Mine
open PySem.NumText
theorem typeCall_int_2 (a b : Value) : checkTypeCall "int" ⟨[a, b], []⟩ = pure () := by kernel_rfl
theorem newCall_int_2 (a b : Value) : checkBuiltinCall "int.__new__" ⟨[.type "int", a, b], []⟩ = pure () := by kernel_rfl
theorem args_object_init_3 (obj a b : Value) : argsOk "object.__init__" ⟨[obj, a, b], []⟩ := by unfold argsOk; kernel_rfl

noncomputable def hexVal (c : Nat) : Nat := if c < 58 then c - 48 else if c < 71 then c - 55 else c - 87
noncomputable def isHex (c : Nat) : Bool := (48 ≤ c && c ≤ 57) || (65 ≤ c && c ≤ 70) || (97 ≤ c && c ≤ 102)

theorem read_hex : ∀ a b : Nat, isHex a = true → isHex b = true →
  (int_private% "readNumeral") 0 16 [a, b] = (int_private% "Numeral.value") (((hexVal a * 16 + hexVal b : Nat)) : Int) := by
 have hb : ∀ a : Nat, isHex a = true → a < 103 := by
  intro a h; simp only [isHex, Bool.or_eq_true, Bool.and_eq_true, decide_eq_true_eq] at h; omega
 have key : ∀ a : Fin 103, ∀ b : Fin 103, isHex a = true → isHex b = true → digits? 16 [a.1, b.1] = some #[hexVal a, hexVal b] ∧ blank a = false ∧ blank b = false ∧ a.1 ≠ 45 ∧ a.1 ≠ 43 ∧ b.1 ≠ 120 ∧ b.1 ≠ 88 ∧ b.1 ≠ 111 ∧ b.1 ≠ 79 := by
  decide +kernel
 intro a b ha hb'
 obtain ⟨k1, k2, k3, k4, k5, k6, k7, k8, k9⟩ := key ⟨a, hb a ha⟩ ⟨b, hb b hb'⟩ ha hb'
 rw [readNumeral_eq]
 simp only at k1 k2 k3 k4 k5
 have e1 : [a, b].dropWhile blank = [a, b] := by simp [List.dropWhile, k2]
 have e2 : sign [a, b] = (false, [a, b]) := by
  unfold sign; split <;> simp_all
 have e3 : based 16 [a, b] = (16, false, [a, b]) := by
  unfold based
  have : prefix? [a, b] = none ∨ prefix? [a, b] = some 2 := by
   unfold prefix?
   split
   ·rename_i c r h
    injection h with h1 h2; injection h2 with h2 h3; subst h2
    simp only [k6, k7, k8, k9, beq_iff_eq, Bool.or_eq_true, or_self, if_false]
    split <;> simp
   ·exact .inl rfl
  rcases this with h | h <;> simp [h]
 have e4 : ([a, b].reverse.dropWhile blank).reverse = [a, b] := by simp [List.dropWhile, k3]
 rw [e1, e2]
 simp only [e3, e4, k1]
 simp [judge]
end Mine
end
section
namespace Mine
open PySem.NumText PySem.W.KIN
theorem wp_text16 {M : Model} {A : Around} {E : Value → Shared → Prop} {s : Shared} {Q : Value → Shared → Prop} {v : Value} {text : List Nat} {n : Int}
  (hs : (text.takeWhile (· != 0)).length ≤ 640) (hr : (int_private% "readNumeral") 0 16 (text.takeWhile (· != 0)) = (int_private% "Numeral.value") n)
  (ha : ((text.takeWhile (· != 0)).length == text.length) = true) (h : Q (.int n s.toks) { s with toks := s.toks + 1 }) :
  wpAny M A ((int_private% "intFromText") v text 16) Q E s := by
 obtain ⟨hp, g, d, tk, os⟩ := s
 repeat (any_goals (first
  | assumption
  | (with_reducible refine wpAny_ite_true (decide_eq_true hs) ?_)
  | (with_reducible refine wpAny_ite_true (decide_eq_true ha) ?_)
  | wp_step))
 all_goals (try rw [hr])
 all_goals (try dsimp only)
 repeat (any_goals (first
  | assumption
  | (with_reducible refine wpAny_ite_true (decide_eq_true hs) ?_)
  | (with_reducible refine wpAny_ite_true (decide_eq_true ha) ?_)
  | wp_step))

theorem hex_lt {a : Nat} (h : isHex a = true) : a < 103 ∧ a ≠ 0 := by
 simp only [isHex, Bool.or_eq_true, Bool.and_eq_true, decide_eq_true_eq] at h; omega

set_option maxHeartbeats 4000000 in
theorem gives_hex {a b : Nat} {u k : Tok} (h1 : isHex a = true) (h2 : isHex b = true) :
  Gives (Builtin.«int.__new__» ⟨[.type "int", .str ⟨#[a, b]⟩ u, .int 16 k], []⟩) (.int (((hexVal a * 16 + hexVal b : Nat)) : Int)) :=
 .of_wp fun M A E s Q h => by
  obtain ⟨hp, g, d, tk, os⟩ := s
  have f1 := F.conv_sub_int
  have f2 := F.madeHere_int
  have ha := hex_lt h1
  have hb := hex_lt h2
  have q1 : (if (⟨#[a, b]⟩ : PySem.Str).cps.all (· < 128) then (⟨#[a, b]⟩ : PySem.Str).cps.toList else Unicode.numberText (⟨#[a, b]⟩ : PySem.Str).cps.toList) = [a, b] := by
   have : (#[a, b] : Array Nat).all (· < 128) = true := by
    rw [← Array.all_toList]; simp; omega
   rw [if_pos this]
  have q2 : ([a, b].takeWhile (· != 0)) = [a, b] := by
   have e1 : (a != 0) = true := by simp [ha.2]
   have e2 : (b != 0) = true := by simp [hb.2]
   simp only [List.takeWhile, e1, e2]
  have hr := read_hex a b h1 h2
  repeat (any_goals (first
   | assumption
   | (rw [q1])
   | ((with_reducible show wpAny _ _ ((int_private% "intFromText") _ _ _) _ _ _); refine wp_text16 (by rw [q2]; simp) (by rw [q2]; exact hr) (by rw [q2]; simp) ?_)
   | wp_step))
  all_goals exact ⟨_, rfl, h⟩

section
variable {prog : Program} {w : World} {A : Around} {E : Value → Shared → Prop} {s : Shared} {Q : Value → Shared → Prop}
theorem call_int_2 {x b : Value} {S : _root_.PySem.Spec} (g : Meets (Builtin.«int.__new__» ⟨[.type "int", x, b], []⟩) S) (h : S A.in1 (wants (fun obj s₁ => s₁.TypeIs obj "int" ∧ Q obj s₁) E) s) :
  wpAny (model prog w) A (call (.type "int") [x, b]) Q E s :=
 callType_new F.called_int F.newNe_int (typeCall_int_2 x b) (newCall_int_2 x b) (fun obj => args_object_init_3 obj x b) F.entry_int_new g h
theorem call_hex {x : PySem.Str} {a b : Nat} {u k : Tok} (hx : x = ⟨#[a, b]⟩) (h1 : isHex a = true) (h2 : isHex b = true)
  (h : Q (.int (((hexVal a * 16 + hexVal b : Nat)) : Int) s.toks) { s with toks := s.toks + 1 }) :
  wpAny (model prog w) A (call (.type "int") [.str x u, .int 16 k]) Q E s := by
 subst hx
 exact call_int_2 (gives_hex h1 h2).meets (show (Made.int (((hexVal a * 16 + hexVal b : Nat)) : Int)).post _ s from ⟨rfl, h⟩)
end
end Mine
end
section
namespace Mine
noncomputable def hexDig (d : Nat) : Nat := if d < 10 then 48 + d else 55 + d
noncomputable def quoted (c : Nat) : Str := ⟨#[61, hexDig (c / 16), hexDig (c % 16)]⟩
noncomputable def qL (c : Nat) : List Nat := [61, hexDig (c / 16), hexDig (c % 16)]
noncomputable def putL (l : List Nat) (i : Nat) : List Nat := l.take i ++ qL (l.getD i 0) ++ l.drop (i + 1)
end Mine
end
section
namespace Mine
theorem qtab_at (l : List Str) (h : l = (List.range 256).map quoted) (c : Nat) (hc : c < 256) : l.getD (c : Int).toNat Str.empty = quoted c := by
 subst h
 simp [List.getD, hc]
end Mine
set_option maxHeartbeats 8000000 in
theorem Mine.quote_c (w : World) (x : Str) (c : Nat) (hx : x = ⟨#[c]⟩) (hc : c < 256) (t : Tok) :
  Mine.Ctr w 44 5 50 [.str x t] (fun _ => True) (fun r tl => tl = [] ∧ ∃ k, r = .str (Mine.quoted c) k) := by
 k_with_none
 k_with "storeName" => (k_here; (with_reducible show wpAny _ _ (storeName _ _ _) _ _ _); k_dflt (refine' Mine.storeF ?Fw1 ?Nw1 ?_ ?aw1 ?bw1; (case Fw1 => k_asm); (case Nw1 => k_asm); (case aw1 => exact Eq.refl ScopeKind.function); (case bw1 => exact Eq.refl (some NameKind.local)); k_whole; intro h7s m7s F7s N7s; (try k_sweep)))
 k_with "eval Name" => (k_here; (with_reducible show wpAny _ _ (eval (Expr.Name _ _) _) _ _ _); k_dflt (refine' nameX_L ?Fw2 ?vw2 ?_ ?aw2 ?bw2; (case Fw2 => k_asm); (case aw2 => exact Eq.refl ScopeKind.function); (case bw2 => exact Eq.refl (some NameKind.local)); (case vw2 => exact Eq.refl (some _)); k_whole))
 subst hx
 (unfold Mine.Ctr; k_fill; intro p loose mean mg mb dp un gd cn cs a ccd cl outer A₀ base h₀ L m news s Q E B F X N T hk hpre hd hu hret; refine wpAny_call ?_; k_dflt (refine' code_def ?k1 ?k2 ?k3 ?k4 ?k5 ?kA ?kF ?kK ?k6 ?k7 ?k8 ?k9 ?kB ?_ ?c2 ?c3 ?c4 ?c5; (case kA => exact rfl); (case kF => exact rfl); (case kK => assumption); (case k1 => k_asm); (case k2 => k_asm); (case k3 => k_asm); (case k4 => k_asm); (case k5 => k_asm); (case k6 => k_is); (case k7 => k_is); (case k8 => ktr_room); (case k9 => first | exact BindsTo.of_eq rfl | exact binds_K (by k_in) rfl (by k_is) rfl rfl rfl); (case c5 => decide); (case kB => exact locs rfl); (case c2 => exact rfl); (case c3 => exact rfl); (case c4 => exact rfl); k_whole; intro g' L' h' FG' F' N' B' X' T'; (try dsimp only); walk_at "f"))
 walk_at "~"
 all_goals (refine hret _ [] _ _ ?_ (by k_asm) (by first | k_asm | (refine cb_drop (by with_reducible assumption) ?_; first | walk_at "n" | (intro p hp; simp only [List.nil_append] at hp; simp [hp]))))
 exact ⟨rfl, _, congrArg (Value.str · _) (Mine.qtab_at _ (by decide +kernel) c hc)⟩
end
section
namespace Mine
open PySem.StrLaws PySem.Builtin PySem.Builtin.Str
noncomputable def mk (l : List Nat) : Str := ⟨l.toArray⟩
theorem mk_append (a b : List Nat) : mk a ++ mk b = mk (a ++ b) := by
 show Str.append _ _ = _
 simp [Str.append, mk]
theorem mk_length (l : List Nat) : (mk l).length = l.length := by simp [Str.length, mk]
theorem mk_inj {a b : List Nat} : mk a = mk b ↔ a = b := by
 constructor
 ·intro h; injection h with h; simpa using h
 ·rintro rfl; rfl
theorem mk_beq (a b : List Nat) : (mk a == mk b) = (a == b) := by
 rw [Bool.eq_iff_iff]; simp only [beq_iff_eq]; exact mk_inj
theorem mk_toList (x : Str) : mk x.cps.toList = x := by cases x; simp [mk]

theorem idx_clip (i j n : Nat) : strSliceIndices (some (i : Int)) (some (j : Int)) 1 n = strSliceIndices (some ((min i n : Nat) : Int)) (some ((max (min i n) (min j n) : Nat) : Int)) 1 n := by
 have h0 : ¬ ((i : Int) < 0) := Int.not_lt.mpr (Int.natCast_nonneg _)
 have h1 : ¬ ((j : Int) < 0) := Int.not_lt.mpr (Int.natCast_nonneg _)
 have h2 : ¬ (((min i n : Nat) : Int) < 0) := Int.not_lt.mpr (Int.natCast_nonneg _)
 have h3 : ¬ (((max (min i n) (min j n) : Nat) : Int) < 0) := Int.not_lt.mpr (Int.natCast_nonneg _)
 have h4 : (1 : Int) > 0 := by decide
 simp only [strSliceIndices, h0, h1, h2, h3, h4, if_false, if_true]
 have cl : ∀ k : Nat, max (0:Int) (min (k:Int) (n:Int)) = ((min k n : Nat) : Int) := fun k => by omega
 have e1 := cl i
 have e2 := cl j
 have e3 : max (0:Int) (min ((min i n : Nat):Int) (n:Int)) = ((min i n : Nat) : Int) := by rw [cl, Nat.min_eq_left (Nat.min_le_right i n)]
 have e4 : max (0:Int) (min ((max (min i n) (min j n) : Nat):Int) (n:Int)) = ((max (min i n) (min j n) : Nat) : Int) := by rw [cl, Nat.min_eq_left (Nat.max_le.mpr ⟨Nat.min_le_right i n, Nat.min_le_right j n⟩)]
 rw [e1, e2, e3, e4]
 by_cases h : min i n ≤ min j n
 ·rw [Nat.max_eq_right h]
 ·rw [Nat.max_eq_left (Nat.le_of_lt (Nat.lt_of_not_le h))]
  unfold sliceRange
  have g1 : ¬ (((min i n : Nat) : Int) < ((min j n : Nat) : Int)) := fun q => h (Nat.le_of_lt (Int.ofNat_lt.mp q))
  have g2 : ¬ (((min i n : Nat) : Int) < ((min i n : Nat) : Int)) := Int.lt_irrefl _
  simp only [g1, g2, h4, if_false, if_true]
theorem slice_ij (l : List Nat) (i j : Nat) : Txt.slice (mk l) (some (i : Int)) (some (j : Int)) = mk ((l.take j).drop i) := by
 have hs : Txt.slice (mk l) (some (i : Int)) (some (j : Int)) = Txt.slice (mk l) (some ((min i l.length : Nat) : Int)) (some ((max (min i l.length) (min j l.length) : Nat) : Int)) := by
  unfold Txt.slice
  rw [mk_length, idx_clip]
 rw [hs]
 show sliceText _ _ _ = _
 have hb : 0 ≤ ((min i l.length : Nat) : Int) ∧ ((min i l.length : Nat) : Int) ≤ ((max (min i l.length) (min j l.length) : Nat) : Int) ∧ ((max (min i l.length) (min j l.length) : Nat) : Int) ≤ (mk l).cps.toList.length := ⟨Int.natCast_nonneg _, Int.ofNat_le.mpr (Nat.le_max_left _ _), Int.ofNat_le.mpr (Nat.max_le.mpr ⟨Nat.min_le_right _ _, Nat.min_le_right _ _⟩)⟩
 rw [sliceText_plain hb]
 show (⟨((l.toArray.toList.drop _).take _).toArray⟩ : Str) = ⟨_⟩
 congr 2
 simp only [List.toList_toArray]
 rw [show (((max (min i l.length) (min j l.length) : Nat) : Int) - ((min i l.length : Nat) : Int)).toNat = max (min i l.length) (min j l.length) - min i l.length by rw [← Int.ofNat_sub (Nat.le_max_left _ _), Int.toNat_natCast], Int.toNat_natCast]
 rw [← List.drop_take]
 by_cases h1 : i < l.length
 ·rw [Nat.min_eq_left (Nat.le_of_lt h1)]
  by_cases h2 : j ≤ l.length
  ·rw [Nat.min_eq_left h2]
   by_cases h3 : i ≤ j
   ·rw [Nat.max_eq_right h3]
   ·have h4 := Nat.le_of_lt (Nat.lt_of_not_le h3)
    rw [Nat.max_eq_left h4, List.drop_eq_nil_of_le (Nat.le_trans (List.length_take_le _ _) (Nat.le_refl _)), List.drop_eq_nil_of_le (Nat.le_trans (List.length_take_le _ _) h4)]
  ·have h4 := Nat.le_of_lt (Nat.lt_of_not_le h2)
   rw [Nat.min_eq_right h4, Nat.max_eq_right (Nat.le_of_lt h1), List.take_of_length_le (Nat.le_refl _), List.take_of_length_le h4]
 ·have h4 := Nat.le_of_not_lt h1
  rw [Nat.min_eq_right h4, List.drop_eq_nil_of_le (by rw [List.length_take]; exact Nat.min_le_right _ _), List.drop_eq_nil_of_le (Nat.le_trans (by rw [List.length_take]; exact Nat.min_le_right _ _) h4)]
theorem slice_nj (l : List Nat) (j : Nat) : Txt.slice (mk l) none (some (j : Int)) = mk (l.take j) := by
 have e : Txt.slice (mk l) none (some (j : Int)) = Txt.slice (mk l) (some ((0 : Nat) : Int)) (some (j : Int)) := by
  unfold Txt.slice; rw [sliceIdx_none_lo]; rfl
 rw [e, slice_ij]; simp
theorem slice_in (l : List Nat) (i : Nat) : Txt.slice (mk l) (some (i : Int)) none = mk (l.drop i) := by
 have e : Txt.slice (mk l) (some (i : Int)) none = Txt.slice (mk l) (some (i : Int)) (some (l.length : Int)) := by
  unfold Txt.slice; rw [mk_length, sliceIdx_none_hi]
 rw [e, slice_ij]; simp
theorem slice_to_neg (l : List Nat) (k : Nat) (h : 0 < k) (hk : k ≤ l.length) : Txt.slice (mk l) none (some (-(k : Int))) = mk (l.take (l.length - k)) := by
 show sliceText _ _ _ = _
 rw [sliceText_to_neg (by omega) (by rw [mk_length]; omega)]
 show (⟨((l.toArray.toList.drop 0).take _).toArray⟩ : Str) = ⟨_⟩
 rw [mk_length]
 simp only [List.drop_zero, List.toList_toArray]
 congr 3
 omega
theorem item_at (l : List Nat) (i : Nat) (h : i < l.length) : Txt.item (mk l) (i : Int) = mk [l[i]] := by
 unfold Txt.item Txt.charAt
 rw [mk_length]
 have : seqIndex? (i : Int) l.length = some i := by
  unfold seqIndex?
  have h0 : ¬ ((i:Int) < 0) := by omega
  simp [h0, h]
 rw [this]
 simp [h, mk]
theorem getD_at {α : Type} (l : List α) (i : Nat) (d : α) (h : i < l.length) : l.getD i d = l[i] := by simp [List.getD, h]
theorem item_last (l : List Nat) (h : l ≠ []) : Txt.item (mk l) (-1) = mk [l.getLast h] := by
 have hl : 0 < l.length := List.length_pos_iff.mpr h
 unfold Txt.item Txt.charAt
 rw [mk_length]
 have : seqIndex? (-1) l.length = some (l.length - 1) := by
  unfold seqIndex?
  simp
  omega
 rw [this]
 have h2 : l.length - 1 < l.length := by omega
 simp [List.getLast_eq_getElem, h2, mk]
theorem app_list (a b : Str) : (a ++ b).cps.toList = a.cps.toList ++ b.cps.toList := by
 show (Str.append a b).cps.toList = _
 simp [Str.append]
theorem mk_list (l : List Nat) : (mk l).cps.toList = l := rfl
theorem strs_snoc {us : List Value} {ws : List Str} {x : Str} {t : Tok} (h : StrsAre us ws) : StrsAre (us ++ [.str x t]) (ws ++ [x]) := h.append' (.cons _ _ .nil)
end Mine
end
section
section
set_option maxHeartbeats 8000000 in
theorem Mine.put_c (w : World) (l : List Nat) (i : Nat) (hi : i < l.length) (hl : l.length ≤ 1000) (h256 : ∀ c ∈ l, c < 256) (t u : Tok) :
  Mine.Ctr w 120 10 100 [.str (mk l) t, .int i u] (fun _ => True) (fun r tl => tl = [] ∧ ∃ k, r = .str (mk (putL l i)) k) := by
 k_with_none
 k_with "storeName" => (k_here; (with_reducible show wpAny _ _ (storeName _ _ _) _ _ _); k_dflt (refine' Mine.storeF ?Fw3 ?Nw3 ?_ ?aw3 ?bw3; (case Fw3 => k_asm); (case Nw3 => k_asm); (case aw3 => exact Eq.refl ScopeKind.function); (case bw3 => exact Eq.refl (some NameKind.local)); k_whole; intro h7s m7s F7s N7s; (try k_sweep)))
 k_with "eval Name" => (k_here; (with_reducible show wpAny _ _ (eval (Expr.Name _ _) _) _ _ _); k_dflt (refine' nameX_L ?Fw4 ?vw4 ?_ ?aw4 ?bw4; (case Fw4 => k_asm); (case aw4 => exact Eq.refl ScopeKind.function); (case bw4 => exact Eq.refl (some NameKind.local)); (case vw4 => exact Eq.refl (some _)); k_whole))
 k_with "call ref" => (k_here; (with_reducible show wpAny _ _ (call (Value.ref 44) _) _ _ _); walk_at "f"; k_dflt (refine' Mine.quote_c _ _ _ ?c1w5 ?c2w5 _ _ _ _ _ _ _ _ _ _ _ _ _ _ _ _ _ _ _ _ _ _ _ _ ?kBw5 ?kFw5 ?kXw5 ?kNw5 ?kTw5 ?kKw5 ?kPw5 ?kdw5 ?kuw5 ?_; (case kBw5 => k_asm); (case kFw5 => k_asm); (case kXw5 => k_asm); (case kNw5 => k_asm); (case kTw5 => k_asm); (case kKw5 => first | exact rfl | assumption); (case kPw5 => trivial); (case kdw5 => first | exact Mine.oDp (by with_reducible assumption) (by exact rfl) | exact Mine.oDq (by with_reducible assumption) (by exact rfl) | omega | ktr_room); (case kuw5 => first | exact Mine.oDp (by with_reducible assumption) (by exact rfl) | exact Mine.oDq (by with_reducible assumption) (by exact rfl) | omega | ktr_units); (case c1w5 => assumption); (case c2w5 => assumption); k_whole); intro v9 tl9 h9 tk9 hp9 F9 N9; (try dsimp only at hp9); (((first | refine Mine.exE hp9 ?_ | refine Mine.anE hp9 ?_); intro e1 zo1; clear hp9; (first | refine Mine.exE zo1 ?_ | refine Mine.anE zo1 ?_); intro k9 e2; clear zo1); cases e1; cases e2); (try dsimp only [List.nil_append, List.cons_append] at N9); (try dsimp only); walk_at "f")
 have hx : (mk l).length ≤ 1000 := by rw [mk_length]; exact hl
 have hit : Txt.item (mk l) (i : Int) = ⟨#[l[i]]⟩ := item_at l i hi
 have hi2 : i < (mk l).length := by rw [mk_length]; exact hi
 have hc : l[i] < 256 := h256 _ (List.getElem_mem hi)
 have hq : (quoted l[i]).length = 3 := rfl
 (unfold Mine.Ctr; k_fill; intro p loose mean mg mb dp un gd cn cs a ccd cl outer A₀ base h₀ L m news s Q E B F X N T hk hpre hd hu hret; refine wpAny_call ?_; k_dflt (refine' code_def ?k1 ?k2 ?k3 ?k4 ?k5 ?kA ?kF ?kK ?k6 ?k7 ?k8 ?k9 ?kB ?_ ?c2 ?c3 ?c4 ?c5; (case kA => exact rfl); (case kF => exact rfl); (case kK => assumption); (case k1 => k_asm); (case k2 => k_asm); (case k3 => k_asm); (case k4 => k_asm); (case k5 => k_asm); (case k6 => k_is); (case k7 => k_is); (case k8 => ktr_room); (case k9 => first | exact BindsTo.of_eq rfl | exact binds_K (by k_in) rfl (by k_is) rfl rfl rfl); (case c5 => decide); (case kB => exact locs rfl); (case c2 => exact rfl); (case c3 => exact rfl); (case c4 => exact rfl); k_whole; intro g' L' h' FG' F' N' B' X' T'; (try dsimp only); walk_at "f"))
 walk_at "~"
 all_goals (refine hret _ [] _ _ ?_ (by k_asm) (by first | k_asm | (refine cb_drop (by with_reducible assumption) ?_; first | walk_at "n" | (intro p hp; simp only [List.nil_append] at hp; simp [hp]))))
 refine ⟨rfl, _, congrArg (Value.str · _) ?_⟩
 rw [slice_nj, show ((i : Int) + 1) = ((i + 1 : Nat) : Int) by omega, slice_in, show quoted l[i] = mk (qL l[i]) from rfl, mk_append, mk_append]
 unfold putL
 rw [getD_at _ _ _ hi]
 rfl
end
end
section
namespace Mine
noncomputable def Stop (P : Prop) : Prop := P
theorem stop {P : Prop} (h : Stop P) : P := h

noncomputable def iterNames : List String := ["list_iterator", "tuple_iterator", "range_iterator", "str_ascii_iterator", "str_iterator", "dict_keyiterator", "list_reverseiterator"]
noncomputable def isIter (o : Obj) : Bool := (match o.cls with
 | .type n => iterNames.contains n
 | _ => false) && (match o.data with
 | .fields ws => (match (ws[1]? : Option Value) with
  | some (.str _ _) => false
  | _ => true)
 | _ => false)
theorem iter_of {o : Obj} {n : String} {ws : Array Value} {v : Value} (hc : o.cls = .type n) (hd : o.data = .fields ws) (hn : iterNames.contains n = true) (hv : ws[1]? = some v) (hs : ∀ y t, v ≠ .str y t) : isIter o = true := by
 unfold isIter
 rw [hc, hd]
 dsimp only
 rw [hn, hv]
 cases v <;> first | rfl | exact absurd rfl (hs _ _)
theorem isIter_code {o : Obj} {ws : Array Value} {y : Str} {t : Tok} (hd : o.data = .fields ws) (hv : ws[1]? = some (.str y t)) : isIter o = false := by
 unfold isIter
 rw [hd]
 dsimp only
 rw [hv, Bool.and_false]
theorem isIter_cell {o : Obj} {v : Option Value} (hd : o.data = .cell v) : isIter o = false := by
 unfold isIter
 rw [hd]
 dsimp only
 rw [Bool.and_false]
theorem isIter_cls {o : Obj} {n : String} (hc : o.cls = .type n) (hn : iterNames.contains n = false) : isIter o = false := by
 unfold isIter
 rw [hc]
 dsimp only
 rw [hn, Bool.false_and]

noncomputable def LpEnd {σ : Type} (h₀ : Heap) (L I : Addr) (oI : Obj) (Own : σ → List (Addr × Obj)) (tail : List (Addr × Obj)) (ps : σ → List (Str × Value)) (stored : List Str) (m₀ : Str → Option Value) (x : Str) (P : Nat → σ → Prop) (i : Nat) (s₁ s₂ : Shared) : Prop :=
 ∃ (c : σ) (h' : Heap) (tk : Nat) (m' : Str → Option Value) (news' : List (Addr × Obj)), s₂ = { s₁ with heap := h', toks := tk } ∧ Fr h₀ L h' m' ∧ News h₀ L h' news' ∧ (∀ p ∈ Own c ++ tail, p ∈ news') ∧ (I, oI) ∈ news' ∧
  (∀ p ∈ Own c, isIter p.2 = false) ∧ (∀ p ∈ ps c, m' p.1 = some p.2) ∧ (∀ z, z ≠ x → (∀ p ∈ ps c, z ≠ p.1) → stored.contains z = false → m' z = m₀ z) ∧ P i c
noncomputable def LpPost {σ : Type} (h₀ : Heap) (L I : Addr) (oI : Obj) (Own : σ → List (Addr × Obj)) (tail : List (Addr × Obj)) (ps : σ → List (Str × Value)) (stored : List Str) (m₀ : Str → Option Value) (x : Str) (P : Nat → σ → Prop) (i : Nat) (Q : Flow → Shared → Prop) (s₁ : Shared) (f : Flow) (s₂ : Shared) : Prop :=
 match f with
 | .ret v => Q (.ret v) s₂
 | .brk => Q .next s₂
 | _ => LpEnd h₀ L I oI Own tail ps stored m₀ x P i s₁ s₂

section
variable {prog : Program} {w : World} {A : Around} {E : Value → Shared → Prop} {s : Shared} {env : Env} {h₀ : Heap} {x : Str} {body : List Stmt} {Q : Flow → Shared → Prop}
theorem for_W {σ : Type} {I : Addr} {fp : List Addr} {n : Nat} {W : Nat → Value → Prop} {St : Nat → Heap → Prop} {m₀ : Str → Option Value} (Own : σ → List (Addr × Obj)) (tail : List (Addr × Obj)) (ps : σ → List (Str × Value)) (stored : List Str) (P : Nat → σ → Prop) (c₀ : σ)
  (hW : Walks prog w A I fp [I] n W St) (hit : ∀ i h, St i h → ∃ o, h.get? I = some o ∧ isIter o = true) (hI : I ∈ fp)
  (hfp : ∀ b ∈ fp, b = I ∨ (∃ o, h₀.get? b = some o) ∨ ∃ o, ∀ c : σ, (b, o) ∈ Own c ++ tail)
  (hL : I ≠ env.locals) (hI0 : h₀.get? I = none) (hoff : ∀ p ∈ Own c₀ ++ tail, p.1 ≠ I) (hst : St 0 s.heap)
  (F : Fr h₀ env.locals s.heap m₀) (N : News h₀ env.locals s.heap (Own c₀ ++ tail)) (hk : ∀ p ∈ ps c₀, m₀ p.1 = some p.2) (hp : P 0 c₀)
  (turn : ∀ (c : σ) i v (u : Str → Option Value) h tk oI, i < n → W i v → isIter oI = true → P i c → Fr h₀ env.locals h (fun y => if y = x then some v else kstB (fun z => if stored.contains z then u z else m₀ z) (ps c) y) → News h₀ env.locals h (Own c ++ ((I, oI) :: tail)) →
   wpAny (model prog w) A (execs body env) (LpPost h₀ env.locals I oI Own tail ps stored m₀ x P (i + 1) Q { s with heap := h, toks := tk }) E { s with heap := h, toks := tk })
  (done : ∀ (c : σ) (u : Str → Option Value) h tk, P n c → Fr h₀ env.locals h (fun y => if y = x then u y else kstB (fun z => if stored.contains z then u z else m₀ z) (ps c) y) → News h₀ env.locals h (Own c ++ tail) → Q .next { s with heap := h, toks := tk }) :
  LoopAtV prog w A h₀ env x body Q E (.ref I) s := by
 let J : Nat → (Str → Option Value) → List (Addr × Obj) → Prop := fun i m nx =>
  ∃ c : σ, nx = Own c ++ tail ∧ (∀ p ∈ ps c, m p.1 = some p.2) ∧ (∀ z, z ≠ x → (∀ p ∈ ps c, z ≠ p.1) → stored.contains z = false → m z = m₀ z) ∧ P i c
 have hLf : env.locals ∉ fp := by
  intro hm
  rcases hfp _ hm with h | ⟨o, h⟩ | ⟨o, h⟩
  ·exact hL h.symm
  ·exact absurd (Nat.lt_of_lt_of_le (Heap.lt_size h) F.above) (Nat.lt_irrefl _)
  ·exact (N _ (h c₀)).2.1 rfl
 refine ⟨I, fp, [I], n, W, St, m₀, Own c₀ ++ tail, J, rfl, hW, hLf, ?_, ?_, hst, F, N, ⟨c₀, rfl, hk, fun _ _ _ _ => rfl, hp⟩, ?_, ?_⟩
 ·intro b hb; rw [List.mem_singleton.mp hb]; exact hI0
 ·intro p hp hb; exact hoff p hp (List.mem_singleton.mp hb)
 ·rintro i v m₁ news₁ s₁ own ⟨hh', tk', rfl⟩ hin hP ⟨c, rfl, h1, h2, hc⟩ hoff' hown hget hmem hst' F₁ N₁
  ((first | refine Mine.exE (hit _ _ hst') ?_ | refine Mine.anE (hit _ _ hst') ?_); intro oI zo4; (first | refine Mine.exE zo4 ?_ | refine Mine.anE zo4 ?_); intro hoI hisI; clear zo4)
  have hIown : (I, oI) ∈ own := hmem I hI hI0 oI hoI
  have N₂ : News h₀ env.locals hh' (Own c ++ ((I, oI) :: tail)) := fun p hp => N₁ p (by
   rcases List.mem_append.mp hp with h | h
   ·exact List.mem_append.mpr (.inr (List.mem_append.mpr (.inl h)))
   ·rcases List.mem_cons.mp h with rfl | h
    ·exact List.mem_append.mpr (.inl hIown)
    ·exact List.mem_append.mpr (.inr (List.mem_append.mpr (.inr h))))
  refine wpAny_mono (turn c i v m₁ hh' tk' oI hin hP hisI hc (kst_fr h1 h2 F₁) N₂) (fun f s₂ p => ?_) fun _ _ e => e
  have fin : LpEnd h₀ env.locals I oI Own tail ps stored m₀ x P (i + 1) { s with heap := hh', toks := tk' } s₂ → LoopStepU h₀ env.locals [I] own (J (i + 1)) { s with heap := hh', toks := tk' } .next s₂ := by
   intro zr2
   (refine Mine.foldG ?_; intro gk17; (first | refine Mine.exE zr2 ?_ | refine Mine.anE zr2 ?_); intro c' zo5; clear zr2; (first | refine Mine.exE zo5 ?_ | refine Mine.anE zo5 ?_); intro h' zo6; clear zo5; (first | refine Mine.exE zo6 ?_ | refine Mine.anE zo6 ?_); intro tk zo7; clear zo6; (first | refine Mine.exE zo7 ?_ | refine Mine.anE zo7 ?_); intro m' zo8; clear zo7; (first | refine Mine.exE zo8 ?_ | refine Mine.anE zo8 ?_); intro news' zo9; clear zo8; (first | refine Mine.exE zo9 ?_ | refine Mine.anE zo9 ?_); intro e zo10; clear zo9; (first | refine Mine.exE zo10 ?_ | refine Mine.anE zo10 ?_); intro F' zo11; clear zo10; (first | refine Mine.exE zo11 ?_ | refine Mine.anE zo11 ?_); intro N' zo12; clear zo11; (first | refine Mine.exE zo12 ?_ | refine Mine.anE zo12 ?_); intro hn zo13; clear zo12; (first | refine Mine.exE zo13 ?_ | refine Mine.anE zo13 ?_); intro hI' zo14; clear zo13; (first | refine Mine.exE zo14 ?_ | refine Mine.anE zo14 ?_); intro hnot zo15; clear zo14; (first | refine Mine.exE zo15 ?_ | refine Mine.anE zo15 ?_); intro g1 zo16; clear zo15; (first | refine Mine.exE zo16 ?_ | refine Mine.anE zo16 ?_); intro g2 hc'; clear zo16; unfold gk17; clear gk17)
   refine ⟨rfl, h', tk, m', Own c' ++ tail, e, F', fun p hp => ?_, fun p hp hq => ?_, ⟨c', rfl, g1, g2, hc'⟩⟩
   ·rcases List.mem_append.mp hp with h | h
    ·have hfpm := hown p h
     have hg := hget p h
     rcases hfp _ hfpm with hb | ⟨o, hb⟩ | ⟨o, hb⟩
     ·have : p = (I, oI) := Prod.ext hb (by rw [hb, hoI] at hg; exact (Option.some.inj hg).symm)
      rw [this]; exact N' _ hI'
     ·exact absurd hb (by rw [(N₁ p (List.mem_append.mpr (.inl h))).2.2]; intro q; cases q)
     ·have h3 := (N₂ _ (by
       rcases List.mem_append.mp (hb c) with h | h
       ·exact List.mem_append.mpr (.inl h)
       ·exact List.mem_append.mpr (.inr (List.mem_cons_of_mem _ h)))).1
      have h4 : p = (p.1, o) := Prod.ext rfl (by rw [hg] at h3; exact Option.some.inj h3)
      rw [h4]; exact N' _ (hn _ (hb c'))
    ·exact N' p (hn p h)
   ·have hpI : p.1 = I := List.mem_singleton.mp hq
    rcases List.mem_append.mp hp with h | h
    ·have e1 := (N' _ (hn p hp)).1
     have e2 := (N' _ hI').1
     rw [hpI] at e1
     rw [e1] at e2
     have e3 : p.2 = oI := Option.some.inj e2
     have := hnot p h
     rw [e3, hisI] at this
     cases this
    ·exact hoff p (List.mem_append.mpr (.inr h)) hpI
  cases f with
  | ret v => exact .ret p
  | brk => exact .brk p
  | next => exact .next (fin p)
  | cont => exact .cont (fin p)
 ·intro h' tk m' news' F' N' _ zr3
  (refine Mine.foldG ?_; intro gk22; (first | refine Mine.exE zr3 ?_ | refine Mine.anE zr3 ?_); intro c zo18; clear zr3; (first | refine Mine.exE zo18 ?_ | refine Mine.anE zo18 ?_); intro zo19 zo20; clear zo18; (first | refine Mine.exE zo20 ?_ | refine Mine.anE zo20 ?_); intro h1 zo21; clear zo20; (first | refine Mine.exE zo21 ?_ | refine Mine.anE zo21 ?_); intro h2 hc; clear zo21; unfold gk22; clear gk22; subst zo19)
  exact done c m' h' tk hc (kst_frOut h1 h2 F') N'

theorem lp_end {σ : Type} {L I : Addr} {oI : Obj} {Own : σ → List (Addr × Obj)} {tail : List (Addr × Obj)} {ps : σ → List (Str × Value)} {stored : List Str} {m₀ : Str → Option Value} {P : Nat → σ → Prop} {i : Nat} {s₁ : Shared} {h' : Heap} {tk : Nat} {m' : Str → Option Value} {news' : List (Addr × Obj)}
  (c : σ) (F : Fr h₀ L h' m') (N : News h₀ L h' news') (hn : ∀ p ∈ Own c ++ tail, p ∈ news') (hI : (I, oI) ∈ news') (hnot : ∀ p ∈ Own c, isIter p.2 = false) (hk : Has m' (ps c))
  (hr : ∀ z, z ≠ x → (∀ p ∈ ps c, z ≠ p.1) → stored.contains z = false → m' z = m₀ z) (hp : P i c) : LpEnd h₀ L I oI Own tail ps stored m₀ x P i s₁ { s₁ with heap := h', toks := tk } :=
 ⟨c, h', tk, m', news', rfl, F, N, hn, hI, hnot, hk, hr, hp⟩

theorem next_off {m : Str → Option Value} (F : Fr h₀ env.locals s.heap m) : s.heap.objs.size ≠ env.locals := fun e => absurd F.ns.lt (e ▸ Nat.lt_irrefl _)
theorem news_off {news : List (Addr × Obj)} (N : News h₀ env.locals s.heap news) : ∀ p ∈ news, p.1 ≠ s.heap.objs.size := fun p hp e => absurd (Heap.lt_size (N p hp).1) (by rw [e]; exact Nat.lt_irrefl _)

theorem for_list {σ : Type} {l : Addr} {vs : List Value} {nn : Nat} {m₀ : Str → Option Value} (Own : σ → List (Addr × Obj)) (tail : List (Addr × Obj)) (ps : σ → List (Str × Value)) (stored : List Str) (P : Nat → σ → Prop) (c₀ : σ)
  (hh : A.handled = none) (hl : ∀ c : σ, (l, listOf vs.toArray nn) ∈ Own c ++ tail)
  (F : Fr h₀ env.locals s.heap m₀) (N : News h₀ env.locals s.heap (Own c₀ ++ tail)) (hk : ∀ p ∈ ps c₀, m₀ p.1 = some p.2) (hp : P 0 c₀)
  (turn : ∀ (c : σ) i v (u : Str → Option Value) I h tk oI, vs[i]? = some v → isIter oI = true → P i c → Fr h₀ env.locals h (fun y => if y = x then some v else kstB (fun z => if stored.contains z then u z else m₀ z) (ps c) y) → News h₀ env.locals h (Own c ++ ((I, oI) :: tail)) →
   wpAny (model prog w) A (execs body env) (LpPost h₀ env.locals I oI Own tail ps stored m₀ x P (i + 1) Q { s with heap := h, toks := tk }) E { s with heap := h, toks := tk })
  (done : ∀ (c : σ) (u : Str → Option Value) h tk, P vs.length c → Fr h₀ env.locals h (fun y => if y = x then u y else kstB (fun z => if stored.contains z then u z else m₀ z) (ps c) y) → News h₀ env.locals h (Own c ++ tail) → Q .next { s with heap := h, toks := tk }) :
  wpAny (model prog w) A (pyIter (.ref l)) (fun it s₂ => LoopAtV prog w A h₀ env x body Q E it s₂) E s := by
 have hol : s.heap.get? l = some (listOf vs.toArray nn) := (N _ (hl c₀)).1
 have hls : s.heap.IsList l vs.toArray := ⟨_, hol, rfl, nn, rfl⟩
 have hne : l ≠ s.heap.objs.size := Nat.ne_of_lt (Heap.lt_size hol)
 refine wpAny_pyIter_list hls ?_
 have W := Walks.list (prog := prog) (w := w) hh s.heap.objs.size l hne vs.toArray
 have hlen : vs.toArray.size = vs.length := by simp
 rw [hlen] at W
 refine for_W Own tail ps stored P c₀ W (fun i h st => ?_) (by simp) ?_ (next_off F) (next_is_new F) (news_off N) ⟨⟨_, Heap.get?_push_size _ rfl, rfl, rfl⟩, hls.at fun o e => Heap.get?_push_of_some _ e⟩
  (F.push _) (fun p hp => ⟨Heap.get?_push_of_some _ (N p hp).1, (N p hp).2⟩) hk hp ?_ done
 ·(refine Mine.foldG ?_; intro gk27; (first | refine Mine.exE st ?_ | refine Mine.anE st ?_); intro zo23 zo24; clear st; (first | refine Mine.exE zo23 ?_ | refine Mine.anE zo23 ?_); intro o zo25; clear zo23; (first | refine Mine.exE zo25 ?_ | refine Mine.anE zo25 ?_); intro ho zo26; clear zo25; (first | refine Mine.exE zo26 ?_ | refine Mine.anE zo26 ?_); intro hc hd; clear zo26; unfold gk27; clear gk27)
  exact ⟨o, ho, iter_of hc hd (by decide) rfl (fun _ _ h => nomatch h)⟩
 ·intro b hb
  rcases List.mem_cons.mp hb with rfl | hb
  ·exact .inl rfl
  ·rw [List.mem_singleton.mp hb]; exact .inr (.inr ⟨_, hl⟩)
 ·intro c i v u h tk oI hi hv ho hc F' N'
  exact turn c i v u _ h tk oI (by simpa using hv) ho hc F' N'
theorem for_list1 {σ : Type} {l : Addr} {vs : List Value} {nn : Nat} {tail : List (Addr × Obj)} {m₀ : Str → Option Value} (Own : σ → List (Addr × Obj)) (ps : σ → List (Str × Value)) (stored : List Str) (P : Nat → σ → Prop) (c₀ : σ)
  (F : Fr h₀ env.locals s.heap m₀) (N : News h₀ env.locals s.heap (Own c₀ ++ ((l, listOf vs.toArray nn) :: tail))) (hh : A.handled = none) (hk : ∀ p ∈ ps c₀, m₀ p.1 = some p.2) (hp : P 0 c₀)
  (turn : ∀ (c : σ) i v (u : Str → Option Value) I h tk oI, vs[i]? = some v → isIter oI = true → P i c → Fr h₀ env.locals h (fun y => if y = x then some v else kstB (fun z => if stored.contains z then u z else m₀ z) (ps c) y) → News h₀ env.locals h (Own c ++ ((I, oI) :: (l, listOf vs.toArray nn) :: tail)) →
   wpAny (model prog w) A (execs body env) (LpPost h₀ env.locals I oI Own ((l, listOf vs.toArray nn) :: tail) ps stored m₀ x P (i + 1) Q { s with heap := h, toks := tk }) E { s with heap := h, toks := tk })
  (done : ∀ (c : σ) (u : Str → Option Value) h tk, P vs.length c → Fr h₀ env.locals h (fun y => if y = x then u y else kstB (fun z => if stored.contains z then u z else m₀ z) (ps c) y) → News h₀ env.locals h (Own c ++ ((l, listOf vs.toArray nn) :: tail)) → Q .next { s with heap := h, toks := tk }) :
  wpAny (model prog w) A (pyIter (.ref l)) (fun it s₂ => LoopAtV prog w A h₀ env x body Q E it s₂) E s :=
 for_list Own _ ps stored P c₀ hh (fun c => List.mem_append.mpr (.inr (List.mem_cons_self ..))) F N hk hp turn done
end
end Mine
end
section
namespace Mine
noncomputable def WlEnd {σ : Type} (h₀ : Heap) (L : Addr) (s : Shared) (Led : σ → List (Addr × Obj)) (ps : σ → List (Str × Value)) (stored : List Str) (m₀ : Str → Option Value) (P : σ → Prop) (μ : σ → Nat) (c : σ) (s₂ : Shared) : Prop :=
 ∃ (c' : σ) (h' : Heap) (tk : Nat) (m' : Str → Option Value) (news' : List (Addr × Obj)), s₂ = { s with heap := h', toks := tk } ∧ Fr h₀ L h' m' ∧ News h₀ L h' news' ∧ (∀ p ∈ Led c', p ∈ news') ∧ (∀ p ∈ ps c', m' p.1 = some p.2) ∧
  (∀ z, (∀ p ∈ ps c', z ≠ p.1) → stored.contains z = false → m' z = m₀ z) ∧ P c' ∧ μ c' < μ c
noncomputable def WlPost {σ : Type} (h₀ : Heap) (L : Addr) (s : Shared) (Led : σ → List (Addr × Obj)) (ps : σ → List (Str × Value)) (stored : List Str) (m₀ : Str → Option Value) (P : σ → Prop) (μ : σ → Nat) (Q : Flow → Shared → Prop) (c : σ) (f : Flow) (s₂ : Shared) : Prop :=
 match f with
 | .ret v => Q (.ret v) s₂
 | .brk => Q .next s₂
 | _ => WlEnd h₀ L s Led ps stored m₀ P μ c s₂
theorem wl_end {σ : Type} {h₀ : Heap} {L : Addr} {s : Shared} {Led : σ → List (Addr × Obj)} {ps : σ → List (Str × Value)} {stored : List Str} {m₀ m' : Str → Option Value} {P : σ → Prop} {μ : σ → Nat} {c : σ} {h' : Heap} {tk : Nat} {news' : List (Addr × Obj)} (c' : σ)
  (F : Fr h₀ L h' m') (N : News h₀ L h' news') (hn : ∀ p ∈ Led c', p ∈ news') (hk : Has m' (ps c')) (hr : ∀ z, (∀ p ∈ ps c', z ≠ p.1) → stored.contains z = false → m' z = m₀ z) (hp : P c') (hm : μ c' < μ c) :
  WlEnd h₀ L s Led ps stored m₀ P μ c { s with heap := h', toks := tk } := ⟨c', h', tk, m', news', rfl, F, N, hn, hk, hr, hp, hm⟩
section
variable {prog : Program} {w : World} {A : Around} {E : Value → Shared → Prop} {Q : Flow → Shared → Prop} {s : Shared} {env : Env} {h₀ : Heap} {L : Addr}
theorem while_c {σ : Type} {test : Expr} {body : List Stmt} {pos : Pos} {m₀ : Str → Option Value} (Led : σ → List (Addr × Obj)) (ps : σ → List (Str × Value)) (stored : List Str) (P : σ → Prop) (μ : σ → Nat) (c₀ : σ)
  (F : Fr h₀ L s.heap m₀) (N : News h₀ L s.heap (Led c₀)) (hk : ∀ p ∈ ps c₀, m₀ p.1 = some p.2) (hp : P c₀)
  (turn : ∀ (c : σ) (u : Str → Option Value) h tk, P c → Fr h₀ L h (kstB (fun z => if stored.contains z then u z else m₀ z) (ps c)) → News h₀ L h (Led c) →
   wpAny (model prog w) A (isTrue test env (eval test env)) (fun b s₂ =>
    if b = true then wpAny (model prog w) A (execs body env) (WlPost h₀ L s Led ps stored m₀ P μ Q c) E s₂ else Q .next s₂) E { s with heap := h, toks := tk })
  (hE : PassesOwn (model prog w) A env E := by passes_own) :
  wpAny (model prog w) A (exec (.While test body [] pos) env) Q E s := by
 refine While_inv2 (fun n m nx => ∃ c : σ, nx = Led c ∧ μ c = n ∧ (∀ p ∈ ps c, m p.1 = some p.2) ∧ (∀ z, (∀ p ∈ ps c, z ≠ p.1) → stored.contains z = false → m z = m₀ z) ∧ P c) F N ⟨c₀, rfl, rfl, hk, fun _ _ _ => rfl, hp⟩ ?_ hE
 intro n m₁ nx h tk F₁ N₁ zr28
 (refine Mine.foldG ?_; intro gk34; (first | refine Mine.exE zr28 ?_ | refine Mine.anE zr28 ?_); intro c zo30; clear zr28; (first | refine Mine.exE zo30 ?_ | refine Mine.anE zo30 ?_); intro hnx zo31; clear zo30; (first | refine Mine.exE zo31 ?_ | refine Mine.anE zo31 ?_); intro hsz zo32; clear zo31; (first | refine Mine.exE zo32 ?_ | refine Mine.anE zo32 ?_); intro h1 zo33; clear zo32; (first | refine Mine.exE zo33 ?_ | refine Mine.anE zo33 ?_); intro h2 hp'; clear zo33; unfold gk34; clear gk34)
 rw [hnx] at N₁
 rw [← hsz]
 refine wpAny_mono (turn c m₁ h tk hp' (ksw_fr h1 h2 F₁) N₁) (fun b s₂ p => ?_) fun _ _ x => x
 have fin : ∀ s₃, WlEnd h₀ L s Led ps stored m₀ P μ c s₃ → ∃ h' tk' m' nx' n', s₃ = { s with heap := h', toks := tk' } ∧ Fr h₀ L h' m' ∧ News h₀ L h' nx' ∧ n' < μ c ∧ ∃ c : σ, nx' = Led c ∧ μ c = n' ∧ (∀ p ∈ ps c, m' p.1 = some p.2) ∧ (∀ z, (∀ p ∈ ps c, z ≠ p.1) → stored.contains z = false → m' z = m₀ z) ∧ P c := by
  intro s₃ zr29
  (refine Mine.foldG ?_; intro gk47; (first | refine Mine.exE zr29 ?_ | refine Mine.anE zr29 ?_); intro c' zo35; clear zr29; (first | refine Mine.exE zo35 ?_ | refine Mine.anE zo35 ?_); intro h' zo36; clear zo35; (first | refine Mine.exE zo36 ?_ | refine Mine.anE zo36 ?_); intro tk' zo37; clear zo36; (first | refine Mine.exE zo37 ?_ | refine Mine.anE zo37 ?_); intro m' zo38; clear zo37; (first | refine Mine.exE zo38 ?_ | refine Mine.anE zo38 ?_); intro news' zo39; clear zo38; (first | refine Mine.exE zo39 ?_ | refine Mine.anE zo39 ?_); intro zo40 zo41; clear zo39; (first | refine Mine.exE zo41 ?_ | refine Mine.anE zo41 ?_); intro F' zo42; clear zo41; (first | refine Mine.exE zo42 ?_ | refine Mine.anE zo42 ?_); intro N' zo43; clear zo42; (first | refine Mine.exE zo43 ?_ | refine Mine.anE zo43 ?_); intro hn zo44; clear zo43; (first | refine Mine.exE zo44 ?_ | refine Mine.anE zo44 ?_); intro hk9 zo45; clear zo44; (first | refine Mine.exE zo45 ?_ | refine Mine.anE zo45 ?_); intro hr9 zo46; clear zo45; (first | refine Mine.exE zo46 ?_ | refine Mine.anE zo46 ?_); intro hp9 hm9; clear zo46; unfold gk47; clear gk47; subst zo40)
  exact ⟨h', tk', m', Led c', μ c', rfl, F', fun p hp => N' p (hn p hp), hm9, c', rfl, rfl, hk9, hr9, hp9⟩
 cases b with
 | false => simpa using p
 | true =>
  simp only [if_true] at p ⊢
  refine wpAny_mono p (fun f s₃ q => ?_) fun _ _ x => x
  cases f with
  | ret v => exact q
  | brk => exact q
  | next => exact fin _ q
  | cont => exact fin _ q
end
end Mine
end
section
namespace Mine
open PySem.StrLaws PySem.Builtin PySem.Builtin.Str
noncomputable abbrev HEX : Str := Str.ofString "0123456789abcdefABCDEF"
theorem hex_list : HEX.cps.toList = [48, 49, 50, 51, 52, 53, 54, 55, 56, 57, 97, 98, 99, 100, 101, 102, 65, 66, 67, 68, 69, 70] := by decide +kernel
theorem hex_lt128 {c : Nat} (h : isHex c = true) : c < 128 := by
 simp only [isHex, Bool.or_eq_true, Bool.and_eq_true, decide_eq_true_eq] at h
 rcases h with (h | h) | h <;> exact Nat.lt_of_le_of_lt h.2 (by decide)
theorem mem_hex (c : Nat) : c ∈ HEX.cps.toList ↔ isHex c = true := by
 rw [hex_list]
 have key : ∀ c, c < 128 → (c ∈ [48, 49, 50, 51, 52, 53, 54, 55, 56, 57, 97, 98, 99, 100, 101, 102, 65, 66, 67, 68, 69, 70] ↔ isHex c = true) := by decide +kernel
 have small : ∀ x ∈ [48, 49, 50, 51, 52, 53, 54, 55, 56, 57, 97, 98, 99, 100, 101, 102, 65, 66, 67, 68, 69, 70], x < 128 := by decide +kernel
 exact ⟨fun h => (key c (small c h)).mp h, fun h => (key c (hex_lt128 h)).mpr h⟩
theorem item_k (l : List Nat) (j k : Nat) (h : j + k < l.length) : Txt.item (mk l) ((j : Int) + (k : Int)) = mk [l[j + k]] := by
 rw [show ((j : Int) + (k : Int)) = ((j + k : Nat) : Int) by omega]; exact item_at l (j + k) h
theorem hex_of_in {l : List Nat} {j k : Nat} (h : j + k < l.length) (e : (occurrences HEX (Txt.item (mk l) ((j : Int) + (k : Int))) 0 HEX.length 1).isEmpty = false) : isHex l[j + k] = true := by
 rw [item_k l j k h] at e
 have := found_one HEX l[j + k]
 rw [show (⟨#[l[j + k]]⟩ : Str) = mk [l[j + k]] from rfl, e] at this
 exact (mem_hex _).mp (by simpa using this.symm)
theorem not_hex_of_in {l : List Nat} {j k : Nat} (h : j + k < l.length) (e : (occurrences HEX (Txt.item (mk l) ((j : Int) + (k : Int))) 0 HEX.length 1).isEmpty = true) : ¬ isHex l[j + k] = true := by
 rw [item_k l j k h] at e
 have := found_one HEX l[j + k]
 rw [show (⟨#[l[j + k]]⟩ : Str) = mk [l[j + k]] from rfl, e] at this
 intro hh
 have h2 : l[j + k] ∈ HEX.cps.toList := (mem_hex _).mpr hh
 have h3 : ¬ l[j + k] ∈ HEX.cps.toList := by simpa using this.symm
 exact h3 h2
theorem hex_of_in1 {l : List Nat} {j : Nat} (h : j + 1 < l.length) (e : (occurrences (Str.ofString "0123456789abcdefABCDEF") (Txt.item (mk l) ((j : Int) + 1)) 0 (Str.ofString "0123456789abcdefABCDEF").length 1).isEmpty = false) : isHex l[j + 1] = true := hex_of_in (k := 1) h e
theorem hex_of_in2 {l : List Nat} {j : Nat} (h : j + 2 < l.length) (e : (occurrences (Str.ofString "0123456789abcdefABCDEF") (Txt.item (mk l) ((j : Int) + 2)) 0 (Str.ofString "0123456789abcdefABCDEF").length 1).isEmpty = false) : isHex l[j + 2] = true := hex_of_in (k := 2) h e
theorem item_ne {l : List Nat} {j : Nat} (h : j < l.length) (e : (Txt.item (mk l) (j : Int) != Str.ofString "=") = true) : l[j] ≠ 61 := by
 rw [item_at l j h, show Str.ofString "=" = mk [61] from by decide +kernel] at e
 intro h2; rw [h2] at e; simp at e
theorem item_eq {l : List Nat} {j : Nat} (h : j < l.length) (e : (Txt.item (mk l) (j : Int) != Str.ofString "=") = false) : l[j] = 61 := by
 rw [item_at l j h, show Str.ofString "=" = mk [61] from by decide +kernel] at e
 have : mk [l[j]] = mk [61] := by simpa using e
 simpa using mk_inj.mp this
theorem slice_hex {l : List Nat} {j : Nat} (h : j + 2 < l.length) : Txt.slice (Txt.slice (mk l) (some (j : Int)) (some ((j : Int) + 3))) (some 1) (some 3) = ⟨#[l[j + 1], l[j + 2]]⟩ := by
 rw [show ((j : Int) + 3) = ((j + 3 : Nat) : Int) by omega, slice_ij]
 rw [show (some (1 : Int)) = some ((1 : Nat) : Int) from rfl, show (some (3 : Int)) = some ((3 : Nat) : Int) from rfl, slice_ij]
 show mk _ = mk [l[j + 1], l[j + 2]]
 congr 1
 have e1 : (l.take (j + 3)).drop j = [l[j], l[j + 1], l[j + 2]] := by
  rw [List.drop_take, show j + 3 - j = 3 by omega, List.drop_eq_getElem_cons (show j < l.length by omega), List.drop_eq_getElem_cons (show j + 1 < l.length by omega), List.drop_eq_getElem_cons (show j + 1 + 1 < l.length by omega)]
  rfl
 rw [e1]; rfl
theorem slice_hexD {l : List Nat} {j : Nat} (h : j + 2 < l.length) : Txt.slice (Txt.slice (mk l) (some (j : Int)) (some ((j : Int) + 3))) (some 1) (some 3) = ⟨#[l.getD (j + 1) 0, l.getD (j + 2) 0]⟩ := by
 rw [getD_at l (j + 1) 0 (by omega), getD_at l (j + 2) 0 h]; exact slice_hex h
theorem hexD1 {l : List Nat} {j : Nat} (h : j + 1 < l.length) (e : (occurrences (Str.ofString "0123456789abcdefABCDEF") (Txt.item (mk l) ((j : Int) + 1)) 0 (Str.ofString "0123456789abcdefABCDEF").length 1).isEmpty = false) : isHex (l.getD (j + 1) 0) = true := by
 rw [getD_at l (j + 1) 0 h]; exact hex_of_in1 h e
theorem hexD2 {l : List Nat} {j : Nat} (h : j + 2 < l.length) (e : (occurrences (Str.ofString "0123456789abcdefABCDEF") (Txt.item (mk l) ((j : Int) + 2)) 0 (Str.ofString "0123456789abcdefABCDEF").length 1).isEmpty = false) : isHex (l.getD (j + 2) 0) = true := by
 rw [getD_at l (j + 2) 0 h]; exact hex_of_in2 h e
end Mine
end
section
namespace Mine
noncomputable def NsO (o : Obj) (m : Str → Option Value) : Prop := ∃ es ep, o.data = .dict es ep ∧ StrKeys es ∧ ∀ name, nsFind es name = m name
theorem NsO.ns {h : Heap} {a : Addr} {o : Obj} {m : Str → Option Value} (x : NsO o m) (e : h.get? a = some o) : h.Ns a m := let ⟨es, ep, r⟩ := x; ⟨o, es, ep, e, r⟩
theorem ns_obj {h : Heap} {a : Addr} {m : Str → Option Value} (x : h.Ns a m) : ∃ o, h.get? a = some o ∧ NsO o m := let ⟨o, es, ep, e, r⟩ := x; ⟨o, e, es, ep, r⟩

noncomputable def CpEnd {σ : Type} (h₀ : Heap) (L C I : Addr) (oI : Obj) (Own : σ → List (Addr × Obj)) (tail : List (Addr × Obj)) (m : Str → Option Value) (P : Nat → σ → Prop) (i : Nat) (s₁ s₂ : Shared) : Prop :=
 ∃ (c : σ) (h' : Heap) (tk : Nat) (news' : List (Addr × Obj)) (oC : Obj) (mC : Str → Option Value), s₂ = { s₁ with heap := h', toks := tk } ∧ Fr h₀ L h' m ∧ News h₀ L h' news' ∧ (∀ p ∈ Own c ++ tail, p ∈ news') ∧ (I, oI) ∈ news' ∧ (C, oC) ∈ news' ∧ NsO oC mC ∧
  (∀ p ∈ Own c, isIter p.2 = false) ∧ C ∉ (Own c).map (·.1) ∧ P i c
theorem cp_end {σ : Type} {h₀ : Heap} {L C I : Addr} {oI oC : Obj} {Own : σ → List (Addr × Obj)} {tail news' : List (Addr × Obj)} {m mC : Str → Option Value} {P : Nat → σ → Prop} {i : Nat} {s₁ : Shared} {h' : Heap} {tk : Nat} (c : σ)
  (F : Fr h₀ L h' m) (N : News h₀ L h' news') (hC : NsO oC mC) (hn : ∀ p ∈ Own c ++ tail, p ∈ news') (hI : (I, oI) ∈ news') (hCm : (C, oC) ∈ news') (ho : ∀ p ∈ Own c, isIter p.2 = false) (hCo : C ∉ (Own c).map (·.1)) (hp : P i c) :
  CpEnd h₀ L C I oI Own tail m P i s₁ { s₁ with heap := h', toks := tk } := ⟨c, h', tk, news', oC, mC, rfl, F, N, hn, hI, hCm, hC, ho, hCo, hp⟩

noncomputable def okOwn (o : Obj) : Bool := !isIter o && (match o.data with | .dict _ _ => false | _ => true)
theorem okOwn_iter {o : Obj} (h : okOwn o = true) : isIter o = false := by
 unfold okOwn at h
 cases hi : isIter o
 ·rfl
 ·rw [hi] at h; cases h
theorem okOwn_ns {o : Obj} {m : Str → Option Value} (h : okOwn o = true) (x : NsO o m) : False := by
 obtain ⟨es, ep, hd, _⟩ := x
 unfold okOwn at h
 rw [hd, Bool.and_false] at h
 cases h
theorem app_obj (us : List Value) (v : Value) : listOf (us.toArray.push v) (us.length + 1) = listOf (us ++ [v]).toArray (us ++ [v]).length := by simp
theorem cp_end' {σ : Type} {h₀ : Heap} {L C I : Addr} {oI oC : Obj} {Own : σ → List (Addr × Obj)} {tail news' : List (Addr × Obj)} {m mC : Str → Option Value} {P : Nat → σ → Prop} {i : Nat} {s₁ : Shared} {h' : Heap} {tk : Nat} (c : σ)
  (F : Fr h₀ L h' m) (N : News h₀ L h' news') (hC : NsO oC mC) (hn : ∀ p ∈ Own c ++ tail, p ∈ news') (hI : (I, oI) ∈ news') (hCm : (C, oC) ∈ news') (ho : ∀ p ∈ Own c, okOwn p.2 = true) (hp : P i c) :
  CpEnd h₀ L C I oI Own tail m P i s₁ { s₁ with heap := h', toks := tk } := by
 refine cp_end c F N hC hn hI hCm (fun p hp => okOwn_iter (ho p hp)) (fun q => ?_) hp
 obtain ⟨p, hp1, e⟩ := List.mem_map.mp q
 have e1 := (N p (hn p (List.mem_append.mpr (.inl hp1)))).1
 have e2 := (N _ hCm).1
 rw [e] at e1
 rw [show (C, oC).1 = C from rfl, e1] at e2
 have e3 : p.2 = oC := Option.some.inj e2
 exact okOwn_ns (ho p hp1) (e3 ▸ hC)

theorem cp_app {σ : Type} {items : σ → List Value} {nn : σ → Nat} {h₀ : Heap} {L C D I : Addr} {oI oC : Obj} {Own : σ → List (Addr × Obj)} {tail news' : List (Addr × Obj)} {m mC : Str → Option Value} {P : Nat → σ → Prop} {i : Nat} {s₁ : Shared} {h' : Heap} {tk : Nat} {us : List Value} {v : Value} (cf : Value → σ)
  (F : Fr h₀ L h' m) (N : News h₀ L h' news') (hC : NsO oC mC) (hD : (D, listOf (us.toArray.push v) (us.length + 1)) ∈ news') (e1 : items (cf v) = us ++ [v]) (e2 : nn (cf v) = us.length + 1)
  (hn : ∀ p ∈ Own (cf v) ++ tail, p ∈ news') (hI : (I, oI) ∈ news') (hCm : (C, oC) ∈ news') (ho : ∀ p ∈ Own (cf v), okOwn p.2 = true) (hp : P i (cf v)) :
  CpEnd h₀ L C I oI (fun c => (D, listOf (items c).toArray (nn c)) :: Own c) tail m P i s₁ { s₁ with heap := h', toks := tk } := by
 have e : listOf (us.toArray.push v) (us.length + 1) = listOf (items (cf v)).toArray (nn (cf v)) := by rw [e1, e2]; simp
 refine cp_end' (cf v) F N hC ?_ hI hCm ?_ hp
 ·intro p hp
  rcases List.mem_cons.mp hp with rfl | hp
  ·rw [← e]; exact hD
  ·exact hn p hp
 ·intro p hp
  rcases List.mem_cons.mp hp with rfl | hp
  ·rfl
  ·exact ho p hp

section
variable {prog : Program} {w : World} {A : Around} {s : Shared} {env : Env} {h₀ : Heap} {L : Addr}

theorem sameBut_fr {h h' : Heap} {m : Str → Option Value} {c : Addr} (F : Fr h₀ L h m) (hs : Heap.SameBut c h h') (h1 : L ≠ c) (h2 : h₀.get? c = none) : Fr h₀ L h' m :=
 ⟨F.ns.sameBut hs h1, fun b o e => (hs.2 b (fun q => by rw [q, h2] at e; cases e)).trans (F.keep b o e), F.above⟩

end
end Mine
end
section
namespace Mine
section
variable {prog : Program} {w : World} {A : Around} {E : Value → Shared → Prop} {s : Shared} {env : Env} {h₀ : Heap} {L : Addr}

noncomputable def CompGo (prog : Program) (w : World) (A : Around) (env : Env) (elt iter : Expr) (x : Str) (px : Pos) (scope : Scope) (cl : List (Str × Addr)) (pos : Pos) (Q : Value → Shared → Prop) (E : Value → Shared → Prop) (it : Value) (s₂ : Shared) : Prop :=
 wpAny (model prog w) A (newList []) (fun acc s₃ => wpAny (model prog w) A (newFunctionEnv scope env.globals cl [] env.qual none .none (some env)) (fun cenv s₄ =>
  codeAny (model prog w) A (.compStart (.ListComp elt [⟨.Name x px, iter, [], 0⟩] scope pos) 0 it acc { cenv with scope := relabel scope env }) (compPost (model prog w) A E none Q acc cenv.locals) s₄) E s₃) E s₂

theorem comp_eval {elt iter : Expr} {x : Str} {px : Pos} {scope : Scope} {cl : List (Str × Addr)} {pos : Pos} {Q : Value → Shared → Prop}
  (h : wpAny (model prog w) A (eval iter env) (fun xv s₁ => wpAny (model prog w) A (pyIter xv) (fun it s₂ => CompGo prog w A env elt iter x px scope cl pos Q E it s₂) E s₁) E s)
  (hclos : closureFor scope env = pure cl) (hkind : scope.kind = .function) (hnames : ∀ y ∈ scope.names, y.2 = .local → scope.names.lookup y.1 = some .local)
  (hs : ∀ x, foldedSetIterable iter env x = pure x := by intro _; rfl) :
  wpAny (model prog w) A (eval (.ListComp elt [⟨.Name x px, iter, [], 0⟩] scope pos) env) Q E s := by
 rw [eval_ListComp]
 exact wpAny_comprehension_free (use := none) rfl hs hclos hkind hnames (wpAny_mono h (fun xv s₁ h₁ => wpAny_mono h₁ (fun it s₂ h₂ => h₂) fun _ _ e => e) fun _ _ e => e)

end
end Mine
end
section
namespace Mine
theorem rsize (n : Nat) : Builtin.Range.rangeSize 0 (n : Int) 1 = (n : Int) := by
 unfold Builtin.Range.rangeSize
 simp
 omega
theorem rsmall {n : Nat} (h : n ≤ 1000000) : Builtin.Range.small 0 (n : Int) 1 = true := by
 have e : Builtin.Range.rangeFitsLong (n : Int) = true := by
  unfold Builtin.Range.rangeFitsLong
  simp
  omega
 have e1 : Builtin.Range.rangeFitsLong 1 = true := by decide
 have e0 : Builtin.Range.rangeFitsLong 0 = true := by decide
 unfold Builtin.Range.small
 rw [rsize]
 simp [e, e1, e0]
section
variable {prog : Program} {w : World} {A : Around} {E : Value → Shared → Prop} {s : Shared} {env : Env} {h₀ : Heap} {L : Addr} {x : Str} {body : List Stmt}
theorem range_iterC {I : Addr} {h : Heap} {a b c : Int} (st : IsRangeIter h I a b c) : ∃ o, h.get? I = some o ∧ isIter o = true := ⟨_, st, rfl⟩

theorem for_range {σ : Type} {Q : Flow → Shared → Prop} {r : Addr} {n : Nat} {t₀ u₀ v₀ : Tok} {m₀ : Str → Option Value} (Own : σ → List (Addr × Obj)) (tail : List (Addr × Obj)) (ps : σ → List (Str × Value)) (stored : List Str) (P : Nat → σ → Prop) (c₀ : σ)
  (F : Fr h₀ env.locals s.heap m₀) (N : News h₀ env.locals s.heap (Own c₀ ++ tail)) (hr : IsRange s.heap r 0 (n : Int) 1 t₀ u₀ v₀) (hn : n ≤ 1000000) (hh : A.handled = none) (hk : ∀ p ∈ ps c₀, m₀ p.1 = some p.2) (hp : P 0 c₀)
  (turn : ∀ (c : σ) (i : Nat) (ti : Tok) (u : Str → Option Value) I h tk oI, i < n → isIter oI = true → P i c → Fr h₀ env.locals h (fun y => if y = x then some (.int (i : Int) ti) else kstB (fun z => if stored.contains z then u z else m₀ z) (ps c) y) → News h₀ env.locals h (Own c ++ ((I, oI) :: tail)) →
   wpAny (model prog w) A (execs body env) (LpPost h₀ env.locals I oI Own tail ps stored m₀ x P (i + 1) Q { s with heap := h, toks := tk }) E { s with heap := h, toks := tk })
  (done : ∀ (c : σ) (u : Str → Option Value) h tk, P n c → Fr h₀ env.locals h (fun y => if y = x then u y else kstB (fun z => if stored.contains z then u z else m₀ z) (ps c) y) → News h₀ env.locals h (Own c ++ tail) → Q .next { s with heap := h, toks := tk }) :
  wpAny (model prog w) A (pyIter (.ref r)) (fun it s₂ => LoopAtV prog w A h₀ env x body Q E it s₂) E s := by
 refine wpAny_pyIter_range hr (rsmall hn) ?_
 refine for_W Own tail ps stored P c₀ (Walks.range hh s.heap.objs.size 0 1 n) (fun i h st => range_iterC st) (by simp) ?_ (next_off F) (next_is_new F) (news_off N) (by show IsRangeIter _ _ _ _ _; rw [rsize]; simpa using Heap.get?_push_size _ rfl)
  (F.push _) (fun p hp => ⟨Heap.get?_push_of_some _ (N p hp).1, (N p hp).2⟩) hk hp ?_ done
 ·intro b hb; exact .inl (List.mem_singleton.mp hb)
 ·rintro c i v u h tk oI hi ⟨t, rfl⟩ ho hc F' N'
  have e : (0 : Int) + (i : Int) * 1 = (i : Int) := by omega
  rw [e] at F'
  exact turn c i t u _ h tk oI hi ho hc F' N'

theorem for_str {σ : Type} {Q : Flow → Shared → Prop} {y : Str} {t : Tok} {m₀ : Str → Option Value} (Own : σ → List (Addr × Obj)) (tail : List (Addr × Obj)) (ps : σ → List (Str × Value)) (stored : List Str) (P : Nat → σ → Prop) (c₀ : σ)
  (F : Fr h₀ env.locals s.heap m₀) (N : News h₀ env.locals s.heap (Own c₀ ++ tail)) (hh : A.handled = none) (hk : ∀ p ∈ ps c₀, m₀ p.1 = some p.2) (hp : P 0 c₀)
  (hcls : ∀ (o : Obj) (St : Nat → Heap → Prop), (∀ A' : Around, A'.handled = none → Walks prog w A' s.heap.objs.size [s.heap.objs.size] [s.heap.objs.size] y.cps.size (SignAt y) St) → True := by intros; trivial)
  (turn : ∀ (c : σ) (i k : Nat) (ti : Tok) (u : Str → Option Value) I h tk oI, y.cps[i]? = some k → isIter oI = true → P i c → Fr h₀ env.locals h (fun z => if z = x then some (.str ⟨#[k]⟩ ti) else kstB (fun z => if stored.contains z then u z else m₀ z) (ps c) z) → News h₀ env.locals h (Own c ++ ((I, oI) :: tail)) →
   wpAny (model prog w) A (execs body env) (LpPost h₀ env.locals I oI Own tail ps stored m₀ x P (i + 1) Q { s with heap := h, toks := tk }) E { s with heap := h, toks := tk })
  (done : ∀ (c : σ) (u : Str → Option Value) h tk, P y.cps.size c → Fr h₀ env.locals h (fun z => if z = x then u z else kstB (fun z => if stored.contains z then u z else m₀ z) (ps c) z) → News h₀ env.locals h (Own c ++ tail) → Q .next { s with heap := h, toks := tk }) :
  wpAny (model prog w) A (pyIter (.str y t)) (fun it s₂ => LoopAtV prog w A h₀ env x body Q E it s₂) E s := by
 have go : ∀ (o : Obj) (St : Nat → Heap → Prop), Walks prog w A s.heap.objs.size [s.heap.objs.size] [s.heap.objs.size] y.cps.size (SignAt y) St → (∀ i h, St i h → ∃ o, h.get? s.heap.objs.size = some o ∧ isIter o = true) → St 0 (s.heap.push o) →
   LoopAtV prog w A h₀ env x body Q E (.ref s.heap.objs.size) { s with heap := s.heap.push o } := fun o St W hit st =>
  for_W Own tail ps stored P c₀ W hit (by simp) (fun b hb => .inl (List.mem_singleton.mp hb)) (next_off F) (next_is_new F) (news_off N) st
   (F.push _) (fun p hp => ⟨Heap.get?_push_of_some _ (N p hp).1, (N p hp).2⟩) hk hp (by
    rintro c i v u h tk oI hi ⟨k, ti, hk, rfl⟩ ho hc F' N'
    exact turn c i k ti u _ h tk oI hk ho hc F' N') done
 cases ha : y.cps.all (· < 128)
 ·exact wpAny_pyIter_wide ha (go _ _ (Walks.strWide hh _ y t) (fun i h st => let ⟨o, ho, hc, hd⟩ := st; ⟨o, ho, iter_of hc hd (by decide) rfl (fun _ _ h => nomatch h)⟩) ⟨_, Heap.get?_push_size _ rfl, rfl, rfl⟩)
 ·exact wpAny_pyIter_ascii ha (go _ _ (Walks.strAscii hh _ y t) (fun i h st => let ⟨o, ho, hc, hd⟩ := st; ⟨o, ho, iter_of hc hd (by decide) rfl (fun _ _ h => nomatch h)⟩) ⟨_, Heap.get?_push_size _ rfl, rfl, rfl⟩)

end
end Mine
end
section
namespace Mine
section
variable {M : Model} {A : Around} {E : Value → Shared → Prop} {s : Shared} {K : Frag} {h₀ : Heap} {L C c : Addr} {m mg mb : Str → Option Value} {p : Program} {loose : List Str} {scope : Scope} {cl : List (Str × Addr)} {env : Env}
 {x : Str} {pos : Pos} {v : Value} {Q : Value → Shared → Prop} {news : List (Addr × Obj)} {o oC : Obj} {mC : Str → Option Value}
theorem cname_L (N : News h₀ L s.heap news) (hm : (C, oC) ∈ news) (hN : NsO oC mC) (hv : mC x = some v) (h : Q v s)
  (hk : (compEnvC scope cl C env).scope.kind = .function) (hx : (compEnvC scope cl C env).kindOf x = some .local) (hd : (x == ("__debug__" : Str)) = false) :
  wpAny M A (eval (.Name x pos) (compEnvC scope cl C env)) Q E s := wpAny_Name (wpAny_loadName_local hk hx (hN.ns (N.get hm)) hv h) hd
theorem cname_C (N : News h₀ L s.heap news) (hc : cl.lookup x = some c) (hm : (c, o) ∈ news) (ho : o.data = .cell (some v)) (h : Q v s)
  (hk : (compEnvC scope cl C env).scope.kind = .function) (hx : (compEnvC scope cl C env).kindOf x = some .cell) (hd : (x == ("__debug__" : Str)) = false) :
  wpAny M A (eval (.Name x pos) (compEnvC scope cl C env)) Q E s := wpAny_Name (wpAny_loadName_cell hk hx hc ⟨o, N.get hm, ho⟩ h) hd
theorem cname_G (F : Fr h₀ L s.heap m) (X : K.In h₀) (T : TopRead p loose mg mb h₀) (e : nsIn K mainGlobals x = some (some v)) (h : Q v s) (hg : env.globals = mainGlobals)
  (hk : (compEnvC scope cl C env).scope.kind = .function) (hx : (compEnvC scope cl C env).kindOf x = some .globalImplicit) (hd : (x == ("__debug__" : Str)) = false) :
  wpAny M A (eval (.Name x pos) (compEnvC scope cl C env)) Q E s :=
 Name_function_global hk hx (loadGlobal_global (env := compEnvC scope cl C env) (by show s.heap.Ns env.globals _; rw [hg]; exact T.g.keeps F.keep) (mg_of X T.g e) h) hd
theorem cname_B (F : Fr h₀ L s.heap m) (X : K.In h₀) (T : TopRead p loose mg mb h₀) (e : nsIn K mainGlobals x = some none) (hv : bootBuiltins x = some v) (hn : x ≠ "__name__") (h : Q v s) (hg : env.globals = mainGlobals) (hb : env.builtins = builtinsNs)
  (hk : (compEnvC scope cl C env).scope.kind = .function) (hx : (compEnvC scope cl C env).kindOf x = some .globalImplicit) (hd : (x == ("__debug__" : Str)) = false) :
  wpAny M A (eval (.Name x pos) (compEnvC scope cl C env)) Q E s :=
 Name_function_global hk hx (loadGlobal_builtin (env := compEnvC scope cl C env) (by show s.heap.Ns env.globals _; rw [hg]; exact T.g.keeps F.keep) (mg_none_of X T.g e) (by show s.heap.Ns env.builtins _; rw [hb]; exact T.b.keeps F.keep) ((T.builtins x hn).trans hv) h) hd
end
end Mine
end
section
namespace Mine
noncomputable def joinL (s : List Nat) : List (List Nat) → List Nat
 | [] => []
 | [x] => x
 | x :: y :: r => x ++ s ++ joinL s (y :: r)
theorem join_mk (s : List Nat) : ∀ L : List (List Nat), Str.join (mk s) (L.map mk) = mk (joinL s L)
 | [] => rfl
 | [x] => rfl
 | x :: y :: r => by
  show mk x ++ mk s ++ Str.join (mk s) ((y :: r).map mk) = mk (x ++ s ++ joinL s (y :: r))
  rw [join_mk s (y :: r), mk_append, mk_append]
theorem joinL_nil : ∀ L : List (List Nat), joinL [] L = L.flatten
 | [] => rfl
 | [x] => by simp [joinL]
 | x :: y :: r => by
  show x ++ [] ++ joinL [] (y :: r) = _
  rw [joinL_nil (y :: r)]; simp
theorem txt_join (x : Str) (ys : List Str) : Txt.join x ys = Str.join x ys := by
 have := join_closes (sep := x) (sep' := x) (ys := ys) rfl
 exact beq_iff_eq.mp this
theorem join_empty (L : List (List Nat)) : Txt.join (Str.ofString "") (L.map mk) = mk L.flatten := by
 rw [txt_join, show Str.ofString "" = mk [] from by decide +kernel, join_mk, joinL_nil]
end Mine
end
section
namespace Mine
open PyProof.V
noncomputable def TD (prog : Program) (w : World) (o : Obj) (c : List (Str × Int)) : Prop := ∃ kvs, o.IsDictOf (PySem.strKind prog w) kvs ∧ FlatPairs PyData.str kvs (kdpD c)
theorem kdpD_at {c : List (Str × Int)} {i : Nat} {k : Str} {dv : PyData} (h : (kdpD c)[i]? = some (PyData.str k, dv)) : ∃ n, c[i]? = some (k, n) := by
 unfold kdpD at h
 rw [List.getElem?_map] at h
 cases hc : c[i]? with
 | none => rw [hc] at h; cases h
 | some p =>
  rw [hc] at h
  obtain ⟨a, n⟩ := p
  have e := Option.some.inj h
  have e1 : PyData.str a = PyData.str k := congrArg Prod.fst e
  cases e1
  exact ⟨n, rfl⟩
theorem kdpHas_at {c : List (Str × Int)} {i : Nat} {k : Str} {n : Int} (h : c[i]? = some (k, n)) : kdpHas c k = true := by
 unfold kdpHas
 exact List.any_eq_true.mpr ⟨_, List.mem_of_getElem? h, by simp⟩
section
variable {prog : Program} {w : World} {A : Around} {E : Value → Shared → Prop} {s : Shared} {env : Env} {h₀ : Heap} {x : Str} {body : List Stmt}
theorem for_keys {σ : Type} {Q : Flow → Shared → Prop} {d : Addr} {od : Obj} {D : List (Str × Int)} {m₀ : Str → Option Value} (Own : σ → List (Addr × Obj)) (tail : List (Addr × Obj)) (ps : σ → List (Str × Value)) (stored : List Str) (P : Nat → σ → Prop) (c₀ : σ)
  (F : Fr h₀ env.locals s.heap m₀) (N : News h₀ env.locals s.heap (Own c₀ ++ tail)) (lo : (d == sysModules) = false) (hod : TD prog w od D) (hm : (d, od) ∈ tail) (hh : A.handled = none) (hk : ∀ p ∈ ps c₀, m₀ p.1 = some p.2) (hp : P 0 c₀)
  (turn : ∀ (c : σ) (i : Nat) (k : Str) (n : Int) (ti : Tok) (u : Str → Option Value) I h tk oI, D[i]? = some (k, n) → isIter oI = true → P i c → Fr h₀ env.locals h (fun z => if z = x then some (.str k ti) else kstB (fun z => if stored.contains z then u z else m₀ z) (ps c) z) → News h₀ env.locals h (Own c ++ ((I, oI) :: tail)) →
   wpAny (model prog w) A (execs body env) (LpPost h₀ env.locals I oI Own tail ps stored m₀ x P (i + 1) Q { s with heap := h, toks := tk }) E { s with heap := h, toks := tk })
  (done : ∀ (c : σ) (u : Str → Option Value) h tk, P D.length c → Fr h₀ env.locals h (fun z => if z = x then u z else kstB (fun z => if stored.contains z then u z else m₀ z) (ps c) z) → News h₀ env.locals h (Own c ++ tail) → Q .next { s with heap := h, toks := tk }) :
  wpAny (model prog w) A (pyIter (.ref d)) (fun it s₂ => LoopAtV prog w A h₀ env x body Q E it s₂) E s := by
 obtain ⟨kvs, hdk, hf⟩ := hod
 have hdo : s.heap.DictOf (PySem.strKind prog w) d kvs := Heap.dictOf_iff.mpr ⟨od, (N _ (List.mem_append.mpr (.inr hm))).1, hdk⟩
 obtain ⟨ep, hat⟩ := hdo.dictAt
 have hne : d ≠ s.heap.objs.size := Nat.ne_of_lt hat.lt_size
 have hlen : kvs.length = D.length := by rw [← kdpD_length D]; exact hf.length.symm
 refine wpAny_pyIter_dict lo hat ?_
 have W := Walks.dictKeys (prog := prog) (w := w) (knd := PySem.strKind prog w) hh s.heap.objs.size d hne kvs ep
 rw [hlen] at W
 refine for_W Own tail ps stored P c₀ W (fun i h st => ?_) (by simp) ?_ (next_off F) (next_is_new F) (news_off N) ⟨⟨_, Heap.get?_push_size _ rfl, rfl, by rw [hlen]; rfl⟩, hat.push _⟩
  (F.push _) (fun p hp => ⟨Heap.get?_push_of_some _ (N p hp).1, (N p hp).2⟩) hk hp ?_ done
 ·obtain ⟨⟨o, ho, hc, hd⟩, _⟩ := st
  exact ⟨o, ho, iter_of hc hd (by decide) rfl (fun _ _ h => nomatch h)⟩
 ·intro b hb
  rcases List.mem_cons.mp hb with rfl | hb
  ·exact .inl rfl
  ·rw [List.mem_singleton.mp hb]; exact .inr (.inr ⟨_, fun c => List.mem_append.mpr (.inr hm)⟩)
 ·rintro c i v u h tk oI hi ⟨k, xv, hx, hkey⟩ ho hc F' N'
  obtain ⟨dv, hD, _⟩ := hf.at hx
  obtain ⟨t, rfl⟩ := Value.isStrOf_shape hkey
  obtain ⟨n, hn⟩ := kdpD_at hD
  exact turn c i k n t u _ h tk oI hn ho hc F' N'
end
end Mine
end
section
namespace Mine
open PySem.Builtin PySem.Builtin.Str
noncomputable def scan (e : List Nat) : List Nat → List Nat
 | [] => []
 | c :: r => if c = 61 then (match r with
   | [] => []
   | [a] => 61 :: scan e [a]
   | a :: b :: r' => if isHex a = true ∧ isHex b = true then (hexVal a * 16 + hexVal b) :: (if r' = [] then e else scan e r') else 61 :: scan e (a :: b :: r'))
  else c :: (if r = [] then e else scan e r)
theorem scan_len (e : List Nat) : ∀ n r, r.length ≤ n → (scan e r).length ≤ r.length + e.length := by
 intro n
 induction n with
 | zero => intro r h; have : r = [] := List.length_eq_zero_iff.mp (by omega); subst this; simp [scan]
 | succ n ih =>
  intro r h
  match r with
  | [] => simp [scan]
  | c :: r =>
   unfold scan
   split
   ·match r with
    | [] => simp
    | [a] =>
     have := ih [a] (by simp at h ⊢; omega)
     simp only [List.length_cons, List.length_nil] at this ⊢; omega
    | a :: b :: r' =>
     dsimp only
     split
     ·split
      ·simp only [List.length_cons]; omega
      ·have := ih r' (by simp only [List.length_cons] at h ⊢; omega)
       simp only [List.length_cons]; omega
     ·have := ih (a :: b :: r') (by simp only [List.length_cons] at h ⊢; omega)
      simp only [List.length_cons] at this ⊢; omega
   ·split
    ·rename_i hr; subst hr; simp only [List.length_cons, List.length_nil]; omega
    ·have := ih r (by simp only [List.length_cons] at h ⊢; omega)
     simp only [List.length_cons]; omega
theorem scan_c (e : List Nat) {c : Nat} (r : List Nat) (h : c ≠ 61) : scan e (c :: r) = c :: (if r = [] then e else scan e r) := by
 rw [scan.eq_def]; dsimp only; rw [if_neg h]
theorem scan_1 (e : List Nat) : scan e [61] = [] := by rw [scan.eq_def]; rfl
theorem scan_2 (e : List Nat) (a : Nat) : scan e [61, a] = 61 :: scan e [a] := by rw [scan.eq_def]; rfl
theorem scan_3 (e : List Nat) (a b : Nat) (r : List Nat) : scan e (61 :: a :: b :: r) = if isHex a = true ∧ isHex b = true then (hexVal a * 16 + hexVal b) :: (if r = [] then e else scan e r) else 61 :: scan e (a :: b :: r) := by
 rw [scan.eq_def]; rfl
theorem scan_nil (e : List Nat) : scan e [] = [] := by unfold scan; rfl
theorem scan_other {e r : List Nat} {i : Nat} (h : i < r.length) (hc : r[i] ≠ 61) : scan e (r.drop i) = r[i] :: (if i + 1 = r.length then e else scan e (r.drop (i + 1))) := by
 rw [List.drop_eq_getElem_cons h, scan_c _ _ hc]
 by_cases h2 : i + 1 = r.length
 ·rw [if_pos h2, if_pos (List.drop_eq_nil_of_le (by omega))]
 ·rw [if_neg h2, if_neg (by rw [List.drop_eq_nil_iff]; omega)]
theorem scan_soft {e r : List Nat} {i : Nat} (h : i < r.length) (hc : r[i] = 61) (hn : i + 1 = r.length) : scan e (r.drop i) = [] := by
 rw [List.drop_eq_getElem_cons h, List.drop_eq_nil_of_le (show r.length ≤ i + 1 by omega), hc, scan_1]
theorem scan_hex {e r : List Nat} {i : Nat} (h : i < r.length) (hc : r[i] = 61) (h2 : i + 2 < r.length) (ha : isHex r[i + 1] = true) (hb : isHex r[i + 2] = true) :
  scan e (r.drop i) = (hexVal r[i + 1] * 16 + hexVal r[i + 2]) :: (if i + 3 = r.length then e else scan e (r.drop (i + 3))) := by
 rw [List.drop_eq_getElem_cons h, List.drop_eq_getElem_cons (show i + 1 < r.length by omega), List.drop_eq_getElem_cons (show i + 1 + 1 < r.length by omega), hc, scan_3, if_pos ⟨ha, hb⟩]
 by_cases h3 : i + 3 = r.length
 ·rw [if_pos h3, if_pos (List.drop_eq_nil_of_le (by omega))]
 ·rw [if_neg h3, if_neg (by rw [List.drop_eq_nil_iff]; omega)]
theorem scan_stay {e r : List Nat} {i : Nat} (h : i < r.length) (hc : r[i] = 61) (h1 : i + 1 < r.length) (hno : ¬ ∃ h2 : i + 2 < r.length, isHex r[i + 1] = true ∧ isHex r[i + 2] = true) :
  scan e (r.drop i) = 61 :: scan e (r.drop (i + 1)) := by
 by_cases h2 : i + 2 < r.length
 ·rw [List.drop_eq_getElem_cons h, List.drop_eq_getElem_cons h1, List.drop_eq_getElem_cons (show i + 1 + 1 < r.length from h2), hc, scan_3, if_neg fun hh => hno ⟨h2, hh⟩]
 ·rw [List.drop_eq_getElem_cons h, List.drop_eq_getElem_cons h1, List.drop_eq_nil_of_le (show r.length ≤ i + 1 + 1 by omega), hc, scan_2]
noncomputable def lineOut (e : List Nat) (y : Str) : List Nat := if (Txt.rstrip y).cps.toList = [] then e else scan e (Txt.rstrip y).cps.toList
noncomputable def linesOut (e : List Nat) (ys : List Str) : List Nat := (ys.map (lineOut e)).flatten
theorem lineOut_len (e : List Nat) (y : Str) (h : (Txt.rstrip y).length ≤ y.length) : (lineOut e y).length ≤ y.length + e.length := by
 unfold lineOut
 split
 ·omega
 ·have := scan_len e _ _ (Nat.le_refl (Txt.rstrip y).cps.toList.length)
  have h2 : (Txt.rstrip y).cps.toList.length = (Txt.rstrip y).length := by simp [Str.length]
  omega
theorem linesOut_snoc (e : List Nat) {ys : List Str} {i : Nat} {y : Str} (h : ys[i]? = some y) : linesOut e (ys.take (i + 1)) = linesOut e (ys.take i) ++ lineOut e y := by
 unfold linesOut
 rw [List.take_add_one, h]; simp
theorem lines_le (x : Str) : (Txt.lines x).length ≤ x.length + 1 := by
 unfold Txt.lines
 split
 ·simp
 ·unfold linesOf; rw [List.length_map]; exact lineCuts_le x
noncomputable def decodeT (e x : List Nat) : List Nat :=
 let d := linesOut e (Txt.lines (mk x))
 if x.getLast? ≠ some 13 ∧ x.getLast? ≠ some 10 ∧ e.isSuffixOf d = true then d.take (d.length - e.length) else d
end Mine
end
section
namespace Mine
theorem hexVal_lt {c : Nat} (h : isHex c = true) : hexVal c < 16 := by
 simp only [isHex, Bool.or_eq_true, Bool.and_eq_true, decide_eq_true_eq] at h
 unfold hexVal; split
 ·omega
 ·split <;> omega
end Mine
section
set_option maxHeartbeats 8000000 in
theorem Mine.unquote_c (w : World) (x : Str) (t : Tok) (u v : Nat) (hx : Txt.slice x (some 1) (some 3) = ⟨#[u, v]⟩) (hu : Mine.isHex u = true) (hv : Mine.isHex v = true) (hl : x.length ≤ 1000000):
  Mine.Ctr w 37 5 50 [.str x t] (fun _ => True) (fun r tl => tl = [] ∧ ∃ k, r = .str ⟨#[Mine.hexVal u * 16 + Mine.hexVal v]⟩ k) := by
 k_with_none
 k_with "storeName" => (k_here; (with_reducible show wpAny _ _ (storeName _ _ _) _ _ _); k_dflt (refine' Mine.storeF ?Fw6 ?Nw6 ?_ ?aw6 ?bw6; (case Fw6 => k_asm); (case Nw6 => k_asm); (case aw6 => exact Eq.refl ScopeKind.function); (case bw6 => exact Eq.refl (some NameKind.local)); k_whole; intro h7s m7s F7s N7s; (try k_sweep)))
 k_with "eval Name" => (k_here; (with_reducible show wpAny _ _ (eval (Expr.Name _ _) _) _ _ _); k_dflt (refine' nameX_L ?Fw7 ?vw7 ?_ ?aw7 ?bw7; (case Fw7 => k_asm); (case aw7 => exact Eq.refl ScopeKind.function); (case bw7 => exact Eq.refl (some NameKind.local)); (case vw7 => exact Eq.refl (some _)); k_whole))
 k_with "call type:int" => (k_here; (with_reducible show wpAny _ _ (call (Value.type "int") [Value.str _ _, Value.int _ _]) _ _ _); (with_unfolding_all refine' Mine.call_hex ?k1w8 ?k2w8 ?k3w8 ?_; (case k1w8 => assumption); (case k2w8 => assumption); (case k3w8 => assumption); k_whole))
 have b1 := Mine.hexVal_lt hu
 have b2 := Mine.hexVal_lt hv
 (unfold Mine.Ctr; k_fill; intro p loose mean mg mb dp un gd cn cs a ccd cl outer A₀ base h₀ L m news s Q E B F X N T hk hpre hd hu hret; refine wpAny_call ?_; k_dflt (refine' code_def ?k1 ?k2 ?k3 ?k4 ?k5 ?kA ?kF ?kK ?k6 ?k7 ?k8 ?k9 ?kB ?_ ?c2 ?c3 ?c4 ?c5; (case kA => exact rfl); (case kF => exact rfl); (case kK => assumption); (case k1 => k_asm); (case k2 => k_asm); (case k3 => k_asm); (case k4 => k_asm); (case k5 => k_asm); (case k6 => k_is); (case k7 => k_is); (case k8 => ktr_room); (case k9 => first | exact BindsTo.of_eq rfl | exact binds_K (by k_in) rfl (by k_is) rfl rfl rfl); (case c5 => decide); (case kB => exact locs rfl); (case c2 => exact rfl); (case c3 => exact rfl); (case c4 => exact rfl); k_whole; intro g' L' h' FG' F' N' B' X' T'; (try dsimp only); walk_at "f"))
 walk_at "~"
 all_goals (refine hret _ [] _ _ ?_ (by k_asm) (by first | k_asm | (refine cb_drop (by with_reducible assumption) ?_; first | walk_at "n" | (intro p hp; simp only [List.nil_append] at hp; simp [hp]))))
 exact ⟨rfl, _, rfl⟩
end
end
section
namespace Mine
section
variable {e rl d2 D : List Nat} {j : Nat}
theorem turn_other (hj : j < rl.length) (hc : rl[j] ≠ 61) (h1 : j + 1 ≠ rl.length) (h : d2 ++ scan e (rl.drop j) = D) : (mk d2 ++ Txt.item (mk rl) (j : Int)).cps.toList ++ scan e (rl.drop (j + 1)) = D := by
 rw [app_list, item_at rl j hj, mk_list, mk_list, ← h, scan_other hj hc, if_neg h1]; simp
theorem turn_other_end (hj : j < rl.length) (hc : rl[j] ≠ 61) (h1 : j + 1 = rl.length) (h : d2 ++ scan e (rl.drop j) = D) : (mk d2 ++ Txt.item (mk rl) (j : Int) ++ mk e).cps.toList ++ scan e (rl.drop (j + 1)) = D := by
 rw [app_list, app_list, item_at rl j hj, mk_list, mk_list, mk_list, ← h, scan_other hj hc, if_pos h1, List.drop_eq_nil_of_le (show rl.length ≤ j + 1 by omega), scan_nil]; simp
theorem turn_soft (hj : j < rl.length) (hc : rl[j] = 61) (h1 : j + 1 = rl.length) (h : d2 ++ scan e (rl.drop j) = D) : d2 ++ scan e (rl.drop (j + 1)) = D := by
 rw [← h, scan_soft hj hc h1, List.drop_eq_nil_of_le (show rl.length ≤ j + 1 by omega), scan_nil]
theorem turn_stay (hj : j < rl.length) (hc : rl[j] = 61) (h1 : j + 1 < rl.length) (hno : ¬ ∃ h2 : j + 2 < rl.length, isHex rl[j + 1] = true ∧ isHex rl[j + 2] = true) (h : d2 ++ scan e (rl.drop j) = D) : (mk d2 ++ Txt.item (mk rl) (j : Int)).cps.toList ++ scan e (rl.drop (j + 1)) = D := by
 rw [app_list, item_at rl j hj, mk_list, mk_list, ← h, scan_stay hj hc h1 hno, hc]; simp
theorem turn_hex (hj : j < rl.length) (hc : rl[j] = 61) (h2 : j + 2 < rl.length) (ha : isHex (rl.getD (j + 1) 0) = true) (hb : isHex (rl.getD (j + 2) 0) = true) (h3 : j + 3 ≠ rl.length) (h : d2 ++ scan e (rl.drop j) = D) : (mk d2 ++ ⟨#[hexVal (rl.getD (j + 1) 0) * 16 + hexVal (rl.getD (j + 2) 0)]⟩).cps.toList ++ scan e (rl.drop (j + 3)) = D := by
 rw [getD_at rl (j + 1) 0 (by omega), getD_at rl (j + 2) 0 h2] at *
 rw [app_list, mk_list, ← h, scan_hex hj hc h2 ha hb, if_neg h3]; simp
theorem turn_hex_end (hj : j < rl.length) (hc : rl[j] = 61) (h2 : j + 2 < rl.length) (ha : isHex (rl.getD (j + 1) 0) = true) (hb : isHex (rl.getD (j + 2) 0) = true) (h3 : j + 3 = rl.length) (h : d2 ++ scan e (rl.drop j) = D) : (mk d2 ++ ⟨#[hexVal (rl.getD (j + 1) 0) * 16 + hexVal (rl.getD (j + 2) 0)]⟩ ++ mk e).cps.toList ++ scan e (rl.drop (j + 3)) = D := by
 rw [getD_at rl (j + 1) 0 (by omega), getD_at rl (j + 2) 0 h2] at *
 rw [app_list, app_list, mk_list, mk_list, ← h, scan_hex hj hc h2 ha hb, if_pos h3, List.drop_eq_nil_of_le (show rl.length ≤ j + 3 by omega), scan_nil]; simp
end
end Mine
end
section
namespace Mine
open PySem.StrLaws PySem.Builtin PySem.Builtin.Str
theorem crlf_list : (Str.ofString "\x0d\n").cps.toList = [13, 10] := by decide +kernel
theorem last_crlf (x : List Nat) (h : x ≠ []) : (occurrences (Str.ofString "\x0d\n") (Txt.item (mk x) (-1)) 0 (Str.ofString "\x0d\n").length 1).isEmpty = true ↔ (x.getLast? ≠ some 13 ∧ x.getLast? ≠ some 10) := by
 rw [item_last x h]
 have := found_one (Str.ofString "\x0d\n") (x.getLast h)
 rw [crlf_list] at this
 rw [show mk [x.getLast h] = (⟨#[x.getLast h]⟩ : Str) from rfl, List.getLast?_eq_some_getLast h]
 cases hq : (occurrences (Str.ofString "\x0d\n") ⟨#[x.getLast h]⟩ 0 (Str.ofString "\x0d\n").length 1).isEmpty with
 | true => rw [hq] at this; simpa using this
 | false =>
  rw [hq] at this
  have h2 : x.getLast h = 13 ∨ x.getLast h = 10 := by simpa using this
  simp
  intro h3; rcases h2 with h2 | h2
  ·exact absurd h2 h3
  ·exact h2
theorem endswith_mk (d e : List Nat) : Txt.endswith (mk d) (mk e) = e.isSuffixOf d := by
 unfold Txt.endswith
 rw [mk_length, mk_length, Nat.zero_add]
 rw [Bool.eq_iff_iff, Bool.and_eq_true, decide_eq_true_eq, List.isSuffixOf_iff_suffix]
 rw [subAt_eq, mk_list, mk_list, mk_length, beq_iff_eq]
 constructor
 ·rintro ⟨h1, h2⟩
  rw [List.take_of_length_le (by rw [List.length_drop]; omega)] at h2
  have h3 := List.take_append_drop (d.length - e.length) d
  rw [h2] at h3
  exact ⟨_, h3⟩
 ·rintro ⟨p, rfl⟩
  refine ⟨by rw [List.length_append]; omega, ?_⟩
  rw [List.length_append, show p.length + e.length - e.length = p.length by omega, List.drop_left]
  exact List.take_of_length_le (Nat.le_refl _)
section
variable {x e d : List Nat}
theorem dec_cut (hx0 : x ≠ []) (he0 : e ≠ []) (hd : d = linesOut e (Txt.lines (mk x))) (h1 : (occurrences (Str.ofString "\x0d\n") (Txt.item (mk x) (-1)) 0 (Str.ofString "\x0d\n").length 1).isEmpty = true)
  (h2 : Txt.endswith (mk d) (mk e) = true) : Txt.slice (mk d) none (some (-((mk e).length : Int))) = mk (decodeT e x) := by
 have h3 := (last_crlf x hx0).mp h1
 have h4 := h2
 rw [endswith_mk] at h4
 have hle : e.length ≤ d.length := by
  obtain ⟨p, rfl⟩ := List.isSuffixOf_iff_suffix.mp h4
  rw [List.length_append]; omega
 rw [mk_length, slice_to_neg d e.length (List.length_pos_iff.mpr he0) hle]
 unfold decodeT
 rw [← hd]; dsimp only
 rw [if_pos ⟨h3.1, h3.2, h4⟩]
theorem dec_no (hd : d = linesOut e (Txt.lines (mk x))) (h2 : Txt.endswith (mk d) (mk e) = false) : mk d = mk (decodeT e x) := by
 rw [endswith_mk] at h2
 unfold decodeT
 rw [← hd]; dsimp only
 rw [if_neg (by rw [h2]; rintro ⟨_, _, h⟩; cases h)]
theorem dec_crlf (hx0 : x ≠ []) (hd : d = linesOut e (Txt.lines (mk x))) (h1 : (occurrences (Str.ofString "\x0d\n") (Txt.item (mk x) (-1)) 0 (Str.ofString "\x0d\n").length 1).isEmpty = false) : mk d = mk (decodeT e x) := by
 unfold decodeT
 rw [← hd]; dsimp only
 rw [if_neg]
 rintro ⟨h3, h4, _⟩
 rw [(last_crlf x hx0).mpr ⟨h3, h4⟩] at h1
 cases h1
end
end Mine
end
section
namespace Mine
noncomputable def eolOf : Option (List Nat × Tok) → List Nat
 | none => [10]
 | some p => p.1
noncomputable def tokOf : Option (List Nat × Tok) → Tok
 | none => 187
 | some p => p.2
noncomputable def dargs (x : List Nat) (t : Tok) : Option (List Nat × Tok) → List Value
 | none => [.str (mk x) t]
 | some p => [.str (mk x) t, .str (mk p.1) p.2]
end Mine
section


set_option maxHeartbeats 8000000 in
theorem Mine.decode_k (w : World) (x : List Nat) (k : Option (List Nat × Tok)) (hx0 : x ≠ []) (he0 : Mine.eolOf k ≠ []) (hx : x.length ≤ 1000) (he : (Mine.eolOf k).length ≤ 10) (t : Tok)  :
  Mine.Ctr w 57 10 100 (Mine.dargs x t k) (fun _ => True) (fun r tl => tl = [] ∧ ∃ k9, r = .str (Mine.mk (Mine.decodeT (Mine.eolOf k) x)) k9) := by
 k_with_none
 k_with "storeName" => (k_here; (with_reducible show wpAny _ _ (storeName _ _ _) _ _ _); k_dflt (refine' Mine.storeF ?Fw9 ?Nw9 ?_ ?aw9 ?bw9; (case Fw9 => k_asm); (case Nw9 => k_asm); (case aw9 => exact Eq.refl ScopeKind.function); (case bw9 => exact Eq.refl (some NameKind.local)); k_whole; intro h7s m7s F7s N7s; (try k_sweep)))
 k_with "eval Name" => (k_here; (with_reducible show wpAny _ _ (eval (Expr.Name _ _) _) _ _ _); k_dflt (refine' nameX_L ?Fw10 ?vw10 ?_ ?aw10 ?bw10; (case Fw10 => k_asm); (case aw10 => exact Eq.refl ScopeKind.function); (case bw10 => exact Eq.refl (some NameKind.local)); (case vw10 => exact Eq.refl (some _)); k_whole))
 k_with "call ref" => (k_here; (with_reducible show wpAny _ _ (call (Value.ref 37) _) _ _ _); walk_at "f"; k_dflt (refine' Mine.unquote_c _ _ _ _ _ ?c1w11 ?c2w11 ?c3w11 ?c4w11 _ _ _ _ _ _ _ _ _ _ _ _ _ _ _ _ _ _ _ _ _ _ _ ?kBw11 ?kFw11 ?kXw11 ?kNw11 ?kTw11 ?kKw11 ?kPw11 ?kdw11 ?kuw11 ?_; (case kBw11 => k_asm); (case kFw11 => k_asm); (case kXw11 => k_asm); (case kNw11 => k_asm); (case kTw11 => k_asm); (case kKw11 => first | exact rfl | assumption); (case kPw11 => trivial); (case kdw11 => first | exact Mine.oDp (by with_reducible assumption) (by exact rfl) | exact Mine.oDq (by with_reducible assumption) (by exact rfl) | omega | ktr_room); (case kuw11 => first | exact Mine.oDp (by with_reducible assumption) (by exact rfl) | exact Mine.oDq (by with_reducible assumption) (by exact rfl) | omega | ktr_units); (case c1w11 => refine Mine.slice_hexD ?cqw11; (case cqw11 => omega)); (case c2w11 => refine Mine.hexD1 ?cq2w11 (by with_reducible assumption); (case cq2w11 => omega)); (case c3w11 => refine Mine.hexD2 ?cq3w11 (by with_reducible assumption); (case cq3w11 => omega)); (case c4w11 => omega); k_whole); intro v9 tl9 h9 tk9 hp9 F9 N9; (try dsimp only at hp9); (((first | refine Mine.exE hp9 ?_ | refine Mine.anE hp9 ?_); intro e1 zo48; clear hp9; (first | refine Mine.exE zo48 ?_ | refine Mine.anE zo48 ?_); intro k9 e2; clear zo48); cases e1; cases e2); (try dsimp only [List.nil_append, List.cons_append] at N9); (try dsimp only); walk_at "f")
 k_with "pyIter ref" => (k_here; refine Mine.stop ?_)
 k_with "exec While Compare cons nil" => (k_here; refine Mine.stop ?_)
 have hx1 : 1 ≤ (Mine.mk x).length ∧ (Mine.mk x).length ≤ 1000 := by
  rw [Mine.mk_length]; have := List.length_pos_iff.mpr hx0; omega
 have he1 : (Mine.mk (Mine.eolOf k)).length ≤ 10 := by rw [Mine.mk_length]; exact he
 (unfold Mine.Ctr; k_fill; intro p loose mean mg mb dp un gd cn cs a ccd cl outer A₀ base h₀ L m news s Q E B F X N T hk hpre hd hu hret; refine wpAny_call ?_; k_dflt (refine' code_def (binds := [(Str.ofString "encoded", Value.str (Mine.mk x) t), (Str.ofString "eol", Value.str (Mine.mk (Mine.eolOf k)) (Mine.tokOf k))]) ?k1 ?k2 ?k3 ?k4 ?k5 ?kA ?kF ?kK ?k6 ?k7 ?k8 ?k9 ?kB ?_ ?c2 ?c3 ?c4 ?c5; (case kA => exact rfl); (case kF => exact rfl); (case kK => assumption); (case k1 => k_asm); (case k2 => k_asm); (case k3 => k_asm); (case k4 => k_asm); (case k5 => k_asm); (case k6 => k_is); (case k7 => k_is); (case k8 => ktr_room); (case k9 => cases k with | none => (dsimp only [Mine.dargs, Mine.eolOf, Mine.tokOf]; exact binds_K (by k_in) rfl (by k_is) rfl rfl (by kernel_rfl)) | some p => (dsimp only [Mine.dargs, Mine.eolOf, Mine.tokOf]; exact binds_K (by k_in) rfl (by k_is) rfl rfl (by kernel_rfl))); (case c5 => decide); (case kB => exact locs rfl); (case c2 => exact rfl); (case c3 => exact rfl); (case c4 => exact rfl); k_whole; intro g' L' h' FG' F' N' B' X' T'; (try dsimp only); walk_at "f"))
 generalize Mine.eolOf k = e at *
 generalize Mine.tokOf k = u at *
 (replace F' : Fr g' L' h' (kstB (fun _ => none) [(Str.ofString "eol", Value.str (Mine.mk e) u), (Str.ofString "encoded", Value.str (Mine.mk x) t)]) := Mine.fr_args F' (by kernel_rfl); dsimp only [kstB] at F')
 walk_at "~"
 ·unfold Mine.Stop
  with_reducible rename StrsAre _ _ => hsa
  with_reducible rename List.map _ _ = Txt.lines _ => hln
  with_reducible rename ∀ _, _ ∈ _ → Str.length _ ≤ _ => hlen
  rw [hln] at hsa hlen
  refine Mine.for_list1 (σ := List Nat × Tok) (fun c => []) (fun c => [(Str.ofString "decoded", .str (Mine.mk c.1) c.2)]) [Str.ofString "i", Str.ofString "n", Str.ofString "c"] (fun i c => c.1 = Mine.linesOut e ((Txt.lines (Mine.mk x)).take i) ∧ c.1.length ≤ 1010 * i) ([], ?tk0) (by assumption) (by assumption) rfl ?hk ?hp ?turn ?done
  case hk => intro p hp; rcases List.mem_singleton.mp hp with rfl; rfl
  case hp => exact ⟨rfl, Nat.zero_le _⟩
  case turn =>
   ((repeat ((with_reducible rename Fr g' L' _ _ => Fx9); clear Fx9)); (repeat ((with_reducible rename News g' L' _ _ => Nx9); clear Nx9)))
   refine Mine.tq2 ?_
   intro d td i v u2 I h tk oI hv hoI hP F5 N5
   (try k_unmd); walk_at "f"
   ((first | refine Mine.exE hP ?_ | refine Mine.anE hP ?_); intro hP1 hP2; clear hP)
   (try dsimp only at hP1 hP2)
   (refine Mine.foldG ?_; intro gk52; (first | refine Mine.exE (StrsAre.item hsa i v hv) ?_ | refine Mine.anE (StrsAre.item hsa i v hv) ?_); intro y zo49; (first | refine Mine.exE zo49 ?_ | refine Mine.anE zo49 ?_); intro ty zo50; clear zo49; (first | refine Mine.exE zo50 ?_ | refine Mine.anE zo50 ?_); intro zo51 hy; clear zo50; unfold gk52; clear gk52; subst zo51)
   have hyl : y.length ≤ 1000 := Nat.le_trans (hlen y (List.mem_of_getElem? hy)) hx1.2
   have hil : i < (Txt.lines (Mine.mk x)).length := (List.getElem?_eq_some_iff.mp hy).1
   have hll := Mine.lines_le (Mine.mk x)
   have hd1 : (Mine.mk d).length ≤ 1100000 := by rw [Mine.mk_length]; omega
   have hsn := Mine.linesOut_snoc e hy
   dsimp only [kstB] at F5
   dsimp only [List.nil_append] at N5
   (try k_unmd); walk_at "f"
   walk_at "~"
   ·unfold Mine.Stop
    have hrl1 : (Txt.rstrip y).length ≤ 1000 := by omega
    (with_reducible rename Fr g' L' _ _ => hFz); dsimp +zetaDelta only at hFz
    generalize hrl : Txt.rstrip y = rs at *
    obtain ⟨rl, rfl⟩ : ∃ rl, rs = Mine.mk rl := ⟨_, (Mine.mk_toList _).symm⟩
    rw [Mine.mk_length] at hrl1
    refine Mine.while_c (σ := Nat × List Nat × Tok × Tok) (fun c => _) (fun c => [(Str.ofString "i", .int (c.1 : Nat) c.2.2.1), (Str.ofString "decoded", .str (Mine.mk c.2.1) c.2.2.2)]) [Str.ofString "c"] (fun c => c.1 ≤ rl.length ∧ c.2.1 ++ Mine.scan e (rl.drop c.1) = d ++ Mine.scan e rl) (fun c => rl.length - c.1) (0, d, ?tk1, ?tk2) (by assumption) (by assumption) ?hk ?hp ?turn
    case hk =>
     intro p hp
     rcases List.mem_cons.mp hp with rfl | hp
     ·rfl
     ·rcases List.mem_singleton.mp hp with rfl
      rfl
    case hp => exact ⟨Nat.zero_le _, rfl⟩
    case turn =>
     ((repeat ((with_reducible rename Fr g' L' _ _ => Fx9); clear Fx9)); (repeat ((with_reducible rename News g' L' _ _ => Nx9); clear Nx9)))
     clear hv hsa hlen
     refine Mine.tq4 ?_
     intro j d2 t1 t2 u3 h3 tk3 hP4 F6 N6
     (try k_unmd); walk_at "f"
     ((first | refine Mine.exE hP4 ?_ | refine Mine.anE hP4 ?_); intro hj hd2; clear hP4)
     have hlen2 : d2.length ≤ d.length + rl.length + e.length := by
      have h1 := congrArg List.length hd2
      have h2 := Mine.scan_len e _ rl (Nat.le_refl _)
      simp only [List.length_append] at h1
      omega
     have hd3 : (Mine.mk d2).length ≤ 1200000 := by rw [Mine.mk_length]; omega
     have hml : (Mine.mk rl).length = rl.length := Mine.mk_length rl
     have hj2 : j ≤ (Mine.mk rl).length := by rw [Mine.mk_length]; exact hj
     dsimp only [kstB] at F6
     (try dsimp only [List.nil_append] at N6)
     (try dsimp only at hj hd2)
     (try k_unmd); walk_at "f"


     walk_at "~"
     all_goals (try (exfalso; omega))
     ·with_reducible rename (_ != _) = true => hc
      ((first | (with_reducible rename Fr g' L' _ _ => hF9) | rename Fr g' L' _ _ => hF9); (first | (with_reducible rename News g' L' _ _ => hN9) | rename News g' L' _ _ => hN9); refine Mine.wl_end (j + 1, (Mine.mk d2 ++ Txt.item (Mine.mk rl) (j : Int) ++ Mine.mk e).cps.toList, ?z9u, ?z9v) hF9 hN9 (fun _ h => h) ?z9k ?z9r ?z9p ?z9m; (case z9k => walk_at "h"); (case z9r => walk_at "o"); (case z9m => (dsimp only; omega)); (case z9p => exact ⟨by dsimp only; omega, Mine.turn_other_end (by omega) (Mine.item_ne (by omega) hc) (by omega) hd2⟩))
     ·with_reducible rename (_ != _) = true => hc
      ((first | (with_reducible rename Fr g' L' _ _ => hF9) | rename Fr g' L' _ _ => hF9); (first | (with_reducible rename News g' L' _ _ => hN9) | rename News g' L' _ _ => hN9); refine Mine.wl_end (j + 1, (Mine.mk d2 ++ Txt.item (Mine.mk rl) (j : Int)).cps.toList, ?z10u, ?z10v) hF9 hN9 (fun _ h => h) ?z10k ?z10r ?z10p ?z10m; (case z10k => walk_at "h"); (case z10r => walk_at "o"); (case z10m => (dsimp only; omega)); (case z10p => exact ⟨by dsimp only; omega, Mine.turn_other (by omega) (Mine.item_ne (by omega) hc) (by omega) hd2⟩))
     ·with_reducible rename (_ != _) = false => hc
      ((first | (with_reducible rename Fr g' L' _ _ => hF9) | rename Fr g' L' _ _ => hF9); (first | (with_reducible rename News g' L' _ _ => hN9) | rename News g' L' _ _ => hN9); refine Mine.wl_end (j + 1, d2, ?z11u, ?z11v) hF9 hN9 (fun _ h => h) ?z11k ?z11r ?z11p ?z11m; (case z11k => walk_at "h"); (case z11r => walk_at "o"); (case z11m => (dsimp only; omega)); (case z11p => exact ⟨by dsimp only; omega, Mine.turn_soft (by omega) (Mine.item_eq (by omega) hc) (by omega) hd2⟩))
     ·with_reducible rename (_ != _) = false => hc
      with_reducible rename List.isEmpty _ = true => hx1
      ((first | (with_reducible rename Fr g' L' _ _ => hF9) | rename Fr g' L' _ _ => hF9); (first | (with_reducible rename News g' L' _ _ => hN9) | rename News g' L' _ _ => hN9); refine Mine.wl_end (j + 1, (Mine.mk d2 ++ Txt.item (Mine.mk rl) (j : Int)).cps.toList, ?z12u, ?z12v) hF9 hN9 (fun _ h => h) ?z12k ?z12r ?z12p ?z12m; (case z12k => walk_at "h"); (case z12r => walk_at "o"); (case z12m => (dsimp only; omega)); (case z12p => exact ⟨by dsimp only; omega, Mine.turn_stay (by omega) (Mine.item_eq (by omega) hc) (by omega) (fun ⟨h2, h3, _⟩ => Mine.not_hex_of_in (k := 1) (by omega) hx1 h3) hd2⟩))
     ·with_reducible rename (_ != _) = false => hc
      with_reducible rename List.isEmpty _ = true => hx1
      ((first | (with_reducible rename Fr g' L' _ _ => hF9) | rename Fr g' L' _ _ => hF9); (first | (with_reducible rename News g' L' _ _ => hN9) | rename News g' L' _ _ => hN9); refine Mine.wl_end (j + 1, (Mine.mk d2 ++ Txt.item (Mine.mk rl) (j : Int)).cps.toList, ?z13u, ?z13v) hF9 hN9 (fun _ h => h) ?z13k ?z13r ?z13p ?z13m; (case z13k => walk_at "h"); (case z13r => walk_at "o"); (case z13m => (dsimp only; omega)); (case z13p => exact ⟨by dsimp only; omega, Mine.turn_stay (by omega) (Mine.item_eq (by omega) hc) (by omega) (fun ⟨h2, _, h3⟩ => Mine.not_hex_of_in (k := 2) (by omega) hx1 h3) hd2⟩))
     ·with_reducible rename (_ != _) = false => hc
      ((first | (with_reducible rename Fr g' L' _ _ => hF9) | rename Fr g' L' _ _ => hF9); (first | (with_reducible rename News g' L' _ _ => hN9) | rename News g' L' _ _ => hN9); refine Mine.wl_end (j + 3, (Mine.mk d2 ++ ⟨#[Mine.hexVal (rl.getD (j + 1) 0) * 16 + Mine.hexVal (rl.getD (j + 2) 0)]⟩ ++ Mine.mk e).cps.toList, ?z14u, ?z14v) hF9 hN9 (fun _ h => h) ?z14k ?z14r ?z14p ?z14m; (case z14k => walk_at "h"); (case z14r => walk_at "o"); (case z14m => (dsimp only; omega)); (case z14p => (have q1 : j < rl.length := by omega); (have q2 : j + 2 < rl.length := by omega); exact ⟨by dsimp only; omega, Mine.turn_hex_end q1 (Mine.item_eq q1 hc) q2 (Mine.hexD1 (Nat.lt_of_succ_lt q2) (by with_reducible assumption)) (Mine.hexD2 q2 (by with_reducible assumption)) (by omega) hd2⟩))
     ·with_reducible rename (_ != _) = false => hc
      ((first | (with_reducible rename Fr g' L' _ _ => hF9) | rename Fr g' L' _ _ => hF9); (first | (with_reducible rename News g' L' _ _ => hN9) | rename News g' L' _ _ => hN9); refine Mine.wl_end (j + 3, (Mine.mk d2 ++ ⟨#[Mine.hexVal (rl.getD (j + 1) 0) * 16 + Mine.hexVal (rl.getD (j + 2) 0)]⟩).cps.toList, ?z15u, ?z15v) hF9 hN9 (fun _ h => h) ?z15k ?z15r ?z15p ?z15m; (case z15k => walk_at "h"); (case z15r => walk_at "o"); (case z15m => (dsimp only; omega)); (case z15p => (have q1 : j < rl.length := by omega); (have q2 : j + 2 < rl.length := by omega); exact ⟨by dsimp only; omega, Mine.turn_hex q1 (Mine.item_eq q1 hc) q2 (Mine.hexD1 (Nat.lt_of_succ_lt q2) (by with_reducible assumption)) (Mine.hexD2 q2 (by with_reducible assumption)) (by omega) hd2⟩))
     ·with_reducible rename (_ != _) = false => hc
      ((first | (with_reducible rename Fr g' L' _ _ => hF9) | rename Fr g' L' _ _ => hF9); (first | (with_reducible rename News g' L' _ _ => hN9) | rename News g' L' _ _ => hN9); refine Mine.wl_end (j + 1, (Mine.mk d2 ++ Txt.item (Mine.mk rl) (j : Int)).cps.toList, ?z16u, ?z16v) hF9 hN9 (fun _ h => h) ?z16k ?z16r ?z16p ?z16m; (case z16k => walk_at "h"); (case z16r => walk_at "o"); (case z16m => (dsimp only; omega)); (case z16p => (have q1 : j < rl.length := by omega); exact ⟨by dsimp only; omega, Mine.turn_stay q1 (Mine.item_eq q1 hc) (by omega) (fun ⟨h2, _, _⟩ => absurd h2 (by omega)) hd2⟩))
     ·have hjn : j = rl.length := by omega
      have hd4 : d2 = d ++ Mine.scan e rl := by rw [← hd2, hjn, List.drop_length, Mine.scan_nil, List.append_nil]
      have hne : rl ≠ [] := by intro h0; rename _ ≠ (0 : Int) => hz; apply hz; rw [hml, h0]; rfl
      have hlo : Mine.lineOut e y = Mine.scan e rl := by unfold Mine.lineOut; rw [hrl, Mine.mk_list, if_neg hne]
      have hln2 := Mine.lineOut_len e y (by rw [hrl]; assumption)
      ((try dsimp only); (try k_unmd); (try k_unfold); (try unfold Mine.LpPost); (try dsimp only); (first | (with_reducible rename Fr g' L' _ _ => hF9) | rename Fr g' L' _ _ => hF9); (first | (with_reducible rename News g' L' _ _ => hN9) | rename News g' L' _ _ => hN9); refine Mine.lp_end (d2, ?z7v) hF9 hN9 ?z7n ?z7i ?z7o ?z7k ?z7r ?z7p; (case z7k => walk_at "h"); (case z7n => first | (k_whole; (walk_at "n"); done) | kst_in); (case z7i => k_mem); (case z7o => first | exact List.forall_mem_nil _ | (intro p hp; rcases List.mem_singleton.mp hp with rfl; first | exact Mine.td_iter (by assumption) | exact Mine.td_isIter (by assumption)) | simp [Mine.isIter, Mine.iterNames, W.listOf]); (case z7r => walk_at "o"); (case z7p => (rw [hd4, ← hlo, hP1, ← hsn]; exact ⟨rfl, by rw [hsn, List.length_append, ← hP1]; omega⟩)))
   ·have hr0 : (Txt.rstrip y).cps.toList = [] := by
     with_reducible rename _ = (0 : Int) => hz
     have : (Txt.rstrip y).length = 0 := by omega
     exact List.length_eq_zero_iff.mp (by simpa [Str.length] using this)
    have hlo : Mine.lineOut e y = e := by unfold Mine.lineOut; rw [if_pos hr0]
    ((try dsimp only); (try k_unmd); (try k_unfold); (try unfold Mine.LpPost); (try dsimp only); (first | (with_reducible rename Fr g' L' _ _ => hF9) | rename Fr g' L' _ _ => hF9); (first | (with_reducible rename News g' L' _ _ => hN9) | rename News g' L' _ _ => hN9); refine Mine.lp_end ((Mine.mk d ++ Mine.mk e).cps.toList, ?z8v) hF9 hN9 ?z8n ?z8i ?z8o ?z8k ?z8r ?z8p; (case z8k => walk_at "h"); (case z8n => first | (k_whole; (walk_at "n"); done) | kst_in); (case z8i => k_mem); (case z8o => first | exact List.forall_mem_nil _ | (intro p hp; rcases List.mem_singleton.mp hp with rfl; first | exact Mine.td_iter (by assumption) | exact Mine.td_isIter (by assumption)) | simp [Mine.isIter, Mine.iterNames, W.listOf]); (case z8r => walk_at "o"); (case z8p => (rw [Mine.app_list, Mine.mk_list, Mine.mk_list, hP1]; exact ⟨by rw [hsn, hlo], by rw [List.length_append, ← hP1]; omega⟩)))
  case done =>
   ((repeat ((with_reducible rename Fr g' L' _ _ => Fx9); clear Fx9)); (repeat ((with_reducible rename News g' L' _ _ => Nx9); clear Nx9)))
   refine Mine.tq2 ?_
   intro d td u2 h tk hP F5 N5
   (try k_unmd); walk_at "f"
   ((first | refine Mine.exE hP ?_ | refine Mine.anE hP ?_); intro hP1 hP2; clear hP)
   (try dsimp only at hP1 hP2)
   have hvl := StrsAre.len_eq hsa
   have hll := Mine.lines_le (Mine.mk x)
   have hd1 : (Mine.mk d).length ≤ 1100000 := by rw [Mine.mk_length]; omega
   rw [hvl, List.take_length] at hP1
   dsimp only [kstB] at F5
   dsimp only [List.nil_append] at N5
   (try k_unmd); walk_at "f"
   walk_at "~"
   all_goals (refine hret _ [] _ _ ?_ (by k_asm) (by first | k_asm | (refine cb_drop (by with_reducible assumption) ?_; first | walk_at "n" | (intro p hp; simp only [List.nil_append] at hp; simp [hp]))))
   ·refine ⟨rfl, _, congrArg (Value.str · _) ?_⟩
    exact Mine.dec_cut hx0 he0 hP1 (by with_reducible assumption) (by with_reducible assumption)
   ·refine ⟨rfl, _, congrArg (Value.str · _) ?_⟩
    exact Mine.dec_no hP1 (by with_reducible assumption)
   ·refine ⟨rfl, _, congrArg (Value.str · _) ?_⟩
    exact Mine.dec_crlf hx0 hP1 (by with_reducible assumption)
end
namespace Mine
theorem decode_c (w : World) (x e : List Nat) (hx0 : x ≠ []) (he0 : e ≠ []) (hx : x.length ≤ 1000) (he : e.length ≤ 10) (t u : Tok) :
  Ctr w 57 10 100 [.str (mk x) t, .str (mk e) u] (fun _ => True) (fun r tl => tl = [] ∧ ∃ k, r = .str (mk (decodeT e x)) k) := decode_k w x (some (e, u)) hx0 he0 hx he t
theorem decode1_c (w : World) (x : List Nat) (hx0 : x ≠ []) (hx : x.length ≤ 1000) (t : Tok) :
  Ctr w 57 10 100 [.str (mk x) t] (fun _ => True) (fun r tl => tl = [] ∧ ∃ k, r = .str (mk (decodeT [10] x)) k) := decode_k w x none hx0 (by simp [eolOf]) hx (by simp [eolOf]) t
end Mine
end
section
namespace Mine
open MeetsSeq MeetsSeq3 AutoSeq1
set_option maxHeartbeats 8000000 in
theorem tuple_lt3 (a b : Addr) (x y z x' y' z' : Int) (t1 t2 t3 u1 u2 u3 : Tok) :
  Meets (Builtin.«tuple.__lt__» ⟨[.ref a, .ref b], []⟩)
   (fun _ R s => s.heap.get? a = some { cls := .type "tuple", dict := none, data := .seq #[.int x t1, .int y t2, .int z t3] 0, slots := #[] } ∧ s.heap.get? b = some { cls := .type "tuple", dict := none, data := .seq #[.int x' u1, .int y' u2, .int z' u3] 0, slots := #[] } ∧
    R (.ok (.ret (.bool (if x = x' then (if y = y' then decide (z < z') else decide (y < y')) else decide (x < x'))))) s) := by
 intro prog w A R s h
 obtain ⟨hp, g, d, tk, os⟩ := s; obtain ⟨ha, hb, h⟩ := h
 have f3 := AutoSeq1.sub_tuple_tuple
 wp_walk using wpAny_loadPart' ha, wpAny_loadPart' hb
 show wpAny _ _ (eqBool (.int x t1) (.int x' u1)) _ _ _
 refine wpAny_eqBool_int ?_
 by_cases hx : x = x'
 ·rw [if_pos hx] at h
  rw [show (x == x') = true from beq_iff_eq.mpr hx]
  wp_walk
  show wpAny _ _ (eqBool (.int y t2) (.int y' u2)) _ _ _
  refine wpAny_eqBool_int ?_
  by_cases hy : y = y'
  ·rw [if_pos hy] at h
   rw [show (y == y') = true from beq_iff_eq.mpr hy]
   wp_walk
   show wpAny _ _ (eqBool (.int z t3) (.int z' u3)) _ _ _
   refine wpAny_eqBool_int ?_
   by_cases hz : z = z'
   ·rw [show decide (z < z') = false from by simp; omega] at h
    rw [show (z == z') = true from beq_iff_eq.mpr hz]
    wp_walk
    exact h
   ·rw [show (z == z') = false from beq_eq_false_iff_ne.mpr hz]
    simp only [Bool.not_false, if_true]
    refine wpAny_bind (wpAny_rule ?_)
    refine wpAny_bind (show wpAny _ _ (compareOp .Lt (.int z t3) (.int z' u3)) _ _ _ from wpAny_lt_int ?_)
    wp_walk
    exact h
  ·rw [if_neg hy] at h
   rw [show (y == y') = false from beq_eq_false_iff_ne.mpr hy]
   simp only [Bool.not_false, if_true]
   refine wpAny_bind (wpAny_rule ?_)
   refine wpAny_bind (show wpAny _ _ (compareOp .Lt (.int y t2) (.int y' u2)) _ _ _ from wpAny_lt_int ?_)
   wp_walk
   exact h
 ·rw [if_neg hx] at h
  rw [show (x == x') = false from beq_eq_false_iff_ne.mpr hx]
  simp only [Bool.not_false, if_true]
  refine wpAny_bind (wpAny_rule ?_)
  refine wpAny_bind (show wpAny _ _ (compareOp .Lt (.int x t1) (.int x' u1)) _ _ _ from wpAny_lt_int ?_)
  wp_walk
  exact h
section
variable {prog : Program} {w : World} {A : Around} {E : Value → Shared → Prop} {s : Shared} {Q : Value → Shared → Prop}
theorem lt_tup3 {a b : Addr} {x y z x' y' z' : Int} {t1 t2 t3 u1 u2 u3 : Tok} (ha : s.heap.get? a = some { cls := .type "tuple", dict := none, data := .seq #[.int x t1, .int y t2, .int z t3] 0, slots := #[] }) (hb : s.heap.get? b = some { cls := .type "tuple", dict := none, data := .seq #[.int x' u1, .int y' u2, .int z' u3] 0, slots := #[] })
  (hu : A.units < cLine) (h : Q (.bool (if x = x' then (if y = y' then decide (z < z') else decide (y < y')) else decide (x < x'))) s) : wpAny (model prog w) A (compareOp .Lt (.ref a) (.ref b)) Q E s :=
 richCompare_meets_room (op := .Lt) ⟨_, ha, rfl⟩ ⟨_, hb, rfl⟩ F.slot_tuple_lt F.entry_tuple_lt (F.args_tuple_lt_2 _ _) (tuple_lt3 a b x y z x' y' z' t1 t2 t3 u1 u2 u3) ⟨ha, hb, (fun e => nomatch e), h⟩ hu
end
end Mine
end
section
namespace Mine
theorem pick_from3 (xs : List Value) (a b c : Value) : (slicePick (xs ++ [a, b, c]).toArray (some (-3)) none none).toList = [a, b, c] := by
 have hn : (xs ++ [a, b, c]).toArray.size = xs.length + 3 := by simp
 have e : sliceBounds (some (-3)) none none (xs ++ [a, b, c]).toArray.size = (((xs.length : Nat) : Int), ((xs.length + 3 : Nat) : Int), 1) := by
  rw [hn]
  simp only [sliceBounds, Option.getD_none, show (1 : Int) > 0 by decide, if_true, if_pos (show (-3 : Int) < 0 by decide)]
  congr 1
  omega
 rw [kmk_pick_nat _ e]
 simp
theorem pick_to3 (xs : List Value) (a b c : Value) : (slicePick (xs ++ [a, b, c]).toArray none (some (-3)) none).toList = xs := by
 have hn : (xs ++ [a, b, c]).toArray.size = xs.length + 3 := by simp
 have e : sliceBounds none (some (-3)) none (xs ++ [a, b, c]).toArray.size = (((0 : Nat) : Int), ((xs.length : Nat) : Int), 1) := by
  rw [hn]
  simp only [sliceBounds, Option.getD_none, show (1 : Int) > 0 by decide, if_true, if_pos (show (-3 : Int) < 0 by decide)]
  congr 1
  congr 1
  omega
 rw [kmk_pick_nat _ e]
 simp
end Mine
end
section
namespace Mine
noncomputable def escAt (x : List Nat) (p : Nat) : Bool := decide (p + 2 < x.length) && x.getD p 0 == 61 && x.getD (p + 1) 0 != 61 && x.getD (p + 2) 0 != 61
noncomputable def cutAt (x : List Nat) (p : Nat) : List Nat := x.take p ++ (hexVal (x.getD (p + 1) 0) * 16 + hexVal (x.getD (p + 2) 0)) :: x.drop (p + 3)
noncomputable def ordPlace (n : Int) (x : List Nat) (less : List (Str × Int)) (p : Nat) : List (Str × Int) := if escAt x p then kdpPut less (mk (cutAt x p)) (kdpLook less (mk (cutAt x p)) 0 + n) else less
noncomputable def ordText (c less : List (Str × Int)) (k : Str) : List (Str × Int) := (List.range (k.cps.toList.length - 2)).foldl (ordPlace (kdpLook c k 0) k.cps.toList) less
noncomputable def ordStep (c : List (Str × Int)) : List (Str × Int) := (c.map (·.1)).foldl (ordText c) []
noncomputable def ordersL : Nat → List (Str × Int) → List (Str × Int)
 | 0, c => c
 | n + 1, c => ordStep (ordersL n c)
noncomputable def OrdOk (c : List (Str × Int)) : Prop := c.length ≤ 10000 ∧ ∀ p ∈ c, 3 ≤ p.1.length ∧ p.1.length ≤ 1000 ∧ ∀ j, escAt p.1.cps.toList j = true → isHex (p.1.cps.toList.getD (j + 1) 0) = true ∧ isHex (p.1.cps.toList.getD (j + 2) 0) = true
end Mine
end
section
namespace Mine
noncomputable def partsL (x : List Nat) : List (List Nat) := (Txt.split (mk x) (Str.ofString "=")).map (·.cps.toList)
noncomputable def roundPart (p : List Nat) : List Nat := if p.length > 1 then (hexVal (p.getD 0 0) * 16 + hexVal (p.getD 1 0)) :: p.drop 2 else 61 :: p
noncomputable def roundL (x : List Nat) : List Nat := (partsL x).headD [] ++ ((partsL x).tail.map roundPart).flatten
noncomputable def RoundOk (x : List Nat) : Prop := ∀ p ∈ (partsL x).tail, p.length > 1 → isHex (p.getD 0 0) = true ∧ isHex (p.getD 1 0) = true
theorem slice2 {p : List Nat} (h : 1 < p.length) : Txt.slice (mk p) none (some 2) = ⟨#[p.getD 0 0, p.getD 1 0]⟩ := by
 rw [show (some (2 : Int)) = some ((2 : Nat) : Int) from rfl, slice_nj]
 match p, h with
 | a :: b :: r, _ => rfl
theorem slice2r (p : List Nat) : Txt.slice (mk p) (some 2) none = mk (p.drop 2) := by
 rw [show (some (2 : Int)) = some ((2 : Nat) : Int) from rfl, slice_in]
theorem take_snoc {α : Type} {l : List α} {i : Nat} {a : α} (h : l[i]? = some a) : l.take (i + 1) = l.take i ++ [a] := by
 rw [List.take_add_one, h]; rfl
theorem rp_hex {p : List Nat} (h : 1 < p.length) (h1 : hexVal (p.getD 0 0) < 16) : (⟨#[(((hexVal (p.getD 0 0) * 16 + hexVal (p.getD 1 0) : Nat)) : Int).toNat]⟩ : Str) ++ Txt.slice (mk p) (some 2) none = mk (roundPart p) := by
 rw [slice2r, show (⟨#[(((hexVal (p.getD 0 0) * 16 + hexVal (p.getD 1 0) : Nat)) : Int).toNat]⟩ : Str) = mk [hexVal (p.getD 0 0) * 16 + hexVal (p.getD 1 0)] from rfl, mk_append]
 unfold roundPart; rw [if_pos h]; rfl
theorem rp_one {p : List Nat} (h : ¬ 1 < p.length) : Str.ofString "=" ++ mk p = mk (roundPart p) := by
 rw [show Str.ofString "=" = mk [61] from by decide +kernel, mk_append]
 unfold roundPart; rw [if_neg h]; rfl
theorem partsL_len (x : List Nat) : (partsL x).length ≤ x.length + 2 := by
 unfold partsL; rw [List.length_map]; have := split_le (mk x) (Str.ofString "="); rw [mk_length] at this; exact this
theorem strs_drop1 : ∀ {us : List Value} {ws : List Str}, StrsAre us ws → StrsAre (us.drop 1) (ws.drop 1)
 | _, _, .nil => .nil
 | _, _, .cons _ _ h => h
theorem round_eq {x : List Nat} {y : Str} {outs : List (List Nat)} (h0 : (Txt.split (mk x) (Str.ofString "="))[0]? = some y) (h : outs = (partsL x).tail.map roundPart) :
  y ++ Txt.join (Str.ofString "") (outs.map mk) = mk (roundL x) := by
 rw [join_empty, ← mk_toList y, mk_append, h]
 unfold roundL
 have e : (partsL x).headD [] = y.cps.toList := by
  unfold partsL
  cases hq : Txt.split (mk x) (Str.ofString "=") with
  | nil => rw [hq] at h0; cases h0
  | cons a l => rw [hq] at h0; simp at h0; subst h0; rfl
 rw [e]
theorem sum_round : ∀ L : List (List Nat), ((L.map roundPart).map List.length).sum ≤ (L.map List.length).sum + L.length
 | [] => by simp
 | p :: L => by
  have ih := sum_round L
  have h : (roundPart p).length ≤ p.length + 1 := by
   unfold roundPart; split
   ·simp only [List.length_cons, List.length_drop]; omega
   ·simp
  simp only [List.map_cons, List.sum_cons, List.length_cons] at ih ⊢
  omega
theorem round_weight (x : List Nat) (hx : x.length ≤ 1000) : ((((partsL x).tail.map roundPart).map mk).map (·.length)).sum + (((partsL x).tail.map roundPart).map mk).length ≤ 1048576 := by
 have h1 := split_weight (mk x) (Str.ofString "=") (by decide +kernel)
 have h2 := sum_round (partsL x).tail
 have e1 : ∀ L : List (List Nat), (L.map mk).map (·.length) = L.map List.length := by intro L; rw [List.map_map]; exact List.map_congr_left fun a _ => mk_length a
 rw [e1, List.length_map, List.length_map]
 have e2 : (Txt.split (mk x) (Str.ofString "=")).map (·.length) = (partsL x).map List.length := by
  unfold partsL; rw [List.map_map]; exact List.map_congr_left fun a _ => by simp [Str.length]
 rw [e2, mk_length] at h1
 have e3 : (Txt.split (mk x) (Str.ofString "=")).length = (partsL x).length := by unfold partsL; rw [List.length_map]
 rw [e3] at h1
 have h3 : ((partsL x).tail.map List.length).sum ≤ ((partsL x).map List.length).sum := by
  cases partsL x with
  | nil => simp
  | cons a l => simp
 have h4 : (partsL x).tail.length ≤ (partsL x).length := by rw [List.length_tail]; omega
 omega
end Mine
end
section
namespace Mine
theorem td_iter {prog : Program} {w : World} {o : Obj} {kvs : List (Str × Value)} (h : o.IsDictOf (PySem.strKind prog w) kvs) : isIter o = false := by
 obtain ⟨es, ep, hx, _⟩ := h
 exact isIter_cls hx.1 (by decide)
theorem iter_ne {h₀ h : Heap} {L a b : Addr} {oa ob : Obj} {l : List (Addr × Obj)} (N : News h₀ L h l) (ha : (a, oa) ∈ l) (hb : (b, ob) ∈ l) (h1 : isIter oa = true) (h2 : isIter ob = false) : a ≠ b := by
 intro e
 have x := (N _ ha).1
 have y := (N _ hb).1
 subst e
 dsimp only at x y
 rw [x] at y
 cases y
 rw [h1] at h2; cases h2
theorem slice_two {y : List Nat} {q : Nat} (h : q + 2 < y.length) : Txt.slice (mk y) (some ((q : Int) + 1)) (some ((q : Int) + 3)) = mk [y.getD (q + 1) 0, y.getD (q + 2) 0] := by
 rw [show ((q : Int) + 3) = ((q + 3 : Nat) : Int) by omega, show ((q : Int) + 1) = ((q + 1 : Nat) : Int) by omega, slice_ij, getD_at y (q + 1) 0 (by omega), getD_at y (q + 2) 0 h]
 congr 1
 rw [List.drop_take, show q + 3 - (q + 1) = 2 by omega, List.drop_eq_getElem_cons (show q + 1 < y.length by omega), List.drop_eq_getElem_cons (show q + 1 + 1 < y.length by omega)]
 rfl
theorem no_eq {y : List Nat} {q : Nat} (h : q + 2 < y.length) : (Builtin.Str.occurrences (Txt.slice (mk y) (some ((q : Int) + 1)) (some ((q : Int) + 3))) (Str.ofString "=") 0 (Txt.slice (mk y) (some ((q : Int) + 1)) (some ((q : Int) + 3))).length 1).isEmpty = (y.getD (q + 1) 0 != 61 && y.getD (q + 2) 0 != 61) := by
 rw [slice_two h, show Str.ofString "=" = (⟨#[61]⟩ : Str) from by decide +kernel]
 have := PySem.StrLaws.found_one (mk [y.getD (q + 1) 0, y.getD (q + 2) 0]) 61
 generalize (Builtin.Str.occurrences (mk [y.getD (q + 1) 0, y.getD (q + 2) 0]) ⟨#[61]⟩ 0 (mk [y.getD (q + 1) 0, y.getD (q + 2) 0]).length 1).isEmpty = b at *
 rw [mk_list] at this
 generalize y.getD (q + 1) 0 = u at *
 generalize y.getD (q + 2) 0 = v at *
 cases b
 ·have h2 : 61 ∈ [u, v] := by simpa using this.symm
  symm
  simp only [List.mem_cons, List.not_mem_nil, or_false] at h2
  rcases h2 with h2 | h2 <;> simp [← h2]
 ·have h2 : ¬ 61 ∈ [u, v] := by simpa using this.symm
  simp only [List.mem_cons, List.not_mem_nil, or_false, not_or] at h2
  obtain ⟨h3, h4⟩ := h2
  simp [Ne.symm h3, Ne.symm h4]
theorem item_is {y : List Nat} {q : Nat} (h : q + 2 < y.length) : (Txt.item (mk y) (q : Int) == Str.ofString "=") = (y.getD q 0 == 61) := by
 rw [item_at y q (by omega), show Str.ofString "=" = mk [61] from by decide +kernel, mk_beq, getD_at y q 0 (by omega)]
 simp
theorem esc_iff {y : List Nat} {q : Nat} (h : q + 2 < y.length) : escAt y q = ((Txt.item (mk y) (q : Int) == Str.ofString "=") && (Builtin.Str.occurrences (Txt.slice (mk y) (some ((q : Int) + 1)) (some ((q : Int) + 3))) (Str.ofString "=") 0 (Txt.slice (mk y) (some ((q : Int) + 1)) (some ((q : Int) + 3))).length 1).isEmpty) := by
 unfold escAt
 rw [no_eq h, item_is h, decide_eq_true h, Bool.true_and, Bool.and_assoc]
theorem slice_unq {y : List Nat} {q : Nat} (h : q + 2 < y.length) : Txt.slice (Txt.slice (mk y) (some (q : Int)) none) (some 1) (some 3) = ⟨#[y.getD (q + 1) 0, y.getD (q + 2) 0]⟩ := by
 rw [slice_in, show (some (1 : Int)) = some ((1 : Nat) : Int) from rfl, show (some (3 : Int)) = some ((3 : Nat) : Int) from rfl, slice_ij]
 show mk _ = mk [_, _]
 congr 1
 rw [getD_at y (q + 1) 0 (by omega), getD_at y (q + 2) 0 h, List.drop_eq_getElem_cons (show q < y.length by omega), List.drop_eq_getElem_cons (show q + 1 < y.length by omega), List.drop_eq_getElem_cons (show q + 1 + 1 < y.length by omega)]
 rfl
theorem cut_eq (y : List Nat) (q : Nat) : Txt.slice (mk y) none (some (q : Int)) ++ ⟨#[hexVal (y.getD (q + 1) 0) * 16 + hexVal (y.getD (q + 2) 0)]⟩ ++ Txt.slice (mk y) (some ((q : Int) + 3)) none = mk (cutAt y q) := by
 rw [show ((q : Int) + 3) = ((q + 3 : Nat) : Int) by omega, slice_nj, slice_in]
 show mk _ ++ mk [_] ++ mk _ = _
 rw [mk_append, mk_append, List.append_assoc]
 rfl
theorem allLt_ne {d : Addr} : ∀ {l : List (Addr × Obj)}, AllLt d l → ∀ p ∈ l, p.1 ≠ d
 | [], _ => fun _ h => nomatch h
 | q :: l, h => fun p hp => by
  rcases List.mem_cons.mp hp with rfl | hp
  ·exact Nat.ne_of_lt h.1
  ·exact allLt_ne h.2 p hp
theorem td_isIter {prog : Program} {w : World} {o : Obj} {c : List (Str × Int)} (h : TD prog w o c) : isIter o = false := let ⟨_, h, _⟩ := h; td_iter h
end Mine
section
set_option maxHeartbeats 8000000 in
theorem Mine.orders_c (w : World) (x : List Nat) (n : Nat) (hx : x.length ≤ 1000) (hn : n ≤ 10) (hok : ∀ i, i < n → Mine.OrdOk (Mine.ordersL i [(Mine.mk x, 1)])) (t t2 : Tok) :
  Mine.Ctr w 147 10 200 [.str (Mine.mk x) t, .int (n : Nat) t2] (fun _ => True) (fun r tl => ∃ d o, r = .ref d ∧ tl = [(d, o)] ∧ (d == sysModules) = false ∧ Mine.TD PySem.Challenge.rw_ku0016_01.row.prog w o (Mine.ordersL n [(Mine.mk x, 1)])) := by
 k_with_none
 k_with "storeName" => (k_here; (with_reducible show wpAny _ _ (storeName _ _ _) _ _ _); k_dflt (refine' Mine.storeF ?Fw14 ?Nw14 ?_ ?aw14 ?bw14; (case Fw14 => k_asm); (case Nw14 => k_asm); (case aw14 => exact Eq.refl ScopeKind.function); (case bw14 => exact Eq.refl (some NameKind.local)); k_whole; intro h7s m7s F7s N7s; (try k_sweep)))
 k_with "eval Name" => (k_here; (with_reducible show wpAny _ _ (eval (Expr.Name _ _) _) _ _ _); k_dflt (refine' nameX_L ?Fw15 ?vw15 ?_ ?aw15 ?bw15; (case Fw15 => k_asm); (case aw15 => exact Eq.refl ScopeKind.function); (case bw15 => exact Eq.refl (some NameKind.local)); (case vw15 => exact Eq.refl (some _)); k_whole))
 k_with "pyIter ref" => (k_here; refine Mine.stop ?_)
 k_with "eval Dict" => (k_here; k_dflt (refine' kdn_eval (knd := PySem.strKind _ _) ?Fw17 ?Nw17 ?bw17 ?aw17 ?lw17 ?ew17 ?nw17 ?_; (case Fw17 => k_asm); (case Nw17 => first | k_asm | exact News.nil); (case bw17 => exact Top.nolimit (by k_asm)); (case aw17 => rfl); (case lw17 => rfl); (case ew17 => exact List.cons_ne_nil _ _); (case nw17 => exact Nat.le_of_ble_eq_true rfl)); intro d' h' o' F' N' l1 lo' hd'; (try k_lt l1))
 k_with "exec For Name Name cons nil" => (k_here; (rename Fr _ _ _ _ => lF'); (with_unfolding_all refine' For_invVF lF' ?k1w18 ?k2w18 ?_; (case k1w18 => exact rfl); (case k2w18 => exact rfl); k_whole))
 k_with "setItem ref str" => (k_here; (with_reducible show wpAny _ _ (setItem (Value.ref _) (Value.str _ _) (Value.int _ _)) _ _ _); k_dflt (refine' kdp_setItem ?Fw19 ?Nw19 (UpdF.head ?Uw19) ?dw19 ?fw19 ?zw19 ?_; (case Fw19 => k_asm); (case Nw19 => k_asm); (case Uw19 => (repeat' (first | (with_reducible assumption) | exact List.forall_mem_nil _ | (refine List.forall_mem_cons.mpr ⟨(by first | with_reducible assumption | exact Nat.ne_of_lt (by with_reducible assumption) | exact Nat.ne_of_gt (by with_reducible assumption)), ?_⟩)))); (case dw19 => k_asm); (case fw19 => k_asm); (case zw19 => first | omega | kdp_size); k_whole); intro h9 o9 kvs9 F9 N9 hd9 hf9; (try dsimp only at N9))
 k_with "call ref" => (k_here; (with_reducible show wpAny _ _ (call (Value.ref 37) _) _ _ _); walk_at "f"; k_dflt (refine' Mine.unquote_c _ _ _ _ _ ?c1w20 ?c2w20 ?c3w20 ?c4w20 _ _ _ _ _ _ _ _ _ _ _ _ _ _ _ _ _ _ _ _ _ _ _ ?kBw20 ?kFw20 ?kXw20 ?kNw20 ?kTw20 ?kKw20 ?kPw20 ?kdw20 ?kuw20 ?_; (case kBw20 => k_asm); (case kFw20 => k_asm); (case kXw20 => k_asm); (case kNw20 => k_asm); (case kTw20 => k_asm); (case kKw20 => first | exact rfl | assumption); (case kPw20 => trivial); (case kdw20 => first | exact Mine.oDp (by with_reducible assumption) (by exact rfl) | exact Mine.oDq (by with_reducible assumption) (by exact rfl) | omega | ktr_room); (case kuw20 => first | exact Mine.oDp (by with_reducible assumption) (by exact rfl) | exact Mine.oDq (by with_reducible assumption) (by exact rfl) | omega | ktr_units); (case c1w20 => with_reducible assumption); (case c2w20 => with_reducible assumption); (case c3w20 => with_reducible assumption); (case c4w20 => omega); k_whole); intro v9 tl9 h9 tk9 hp9 F9 N9; (try dsimp only at hp9); (((first | refine Mine.exE hp9 ?_ | refine Mine.anE hp9 ?_); intro e1 zo53; clear hp9; (first | refine Mine.exE zo53 ?_ | refine Mine.anE zo53 ?_); intro k9 e2; clear zo53); cases e1; cases e2); (try dsimp only [List.nil_append, List.cons_append] at N9); (try dsimp only); walk_at "f")
 have hx1 : (Mine.mk x).length ≤ 1000 := by rw [Mine.mk_length]; exact hx
 (unfold Mine.Ctr; k_fill; intro p loose mean mg mb dp un gd cn cs a ccd cl outer A₀ base h₀ L m news s Q E B F X N T hk hpre hd hu hret; refine wpAny_call ?_; k_dflt (refine' code_def (binds := [(Str.ofString "text", Value.str (Mine.mk x) t), (Str.ofString "steps", Value.int (n : Nat) t2)]) ?k1 ?k2 ?k3 ?k4 ?k5 ?kA ?kF ?kK ?k6 ?k7 ?k8 ?k9 ?kB ?_ ?c2 ?c3 ?c4 ?c5; (case kA => exact rfl); (case kF => exact rfl); (case kK => assumption); (case k1 => k_asm); (case k2 => k_asm); (case k3 => k_asm); (case k4 => k_asm); (case k5 => k_asm); (case k6 => k_is); (case k7 => k_is); (case k8 => ktr_room); (case k9 => first | exact BindsTo.of_eq (by kernel_rfl) | exact binds_K (by k_in) rfl (by k_is) rfl rfl rfl); (case c5 => decide); (case kB => exact locs rfl); (case c2 => exact rfl); (case c3 => exact rfl); (case c4 => exact rfl); k_whole; intro g' L' h' FG' F' N' B' X' T'; (try dsimp only); walk_at "f"))
 (replace F' : Fr g' L' h' (kstB (fun _ => none) [(Str.ofString "steps", Value.int (n : Nat) t2), (Str.ofString "text", Value.str (Mine.mk x) t)]) := Mine.fr_args F' rfl; dsimp only [kstB] at F'; simp only [List.length_cons, List.length_nil, Nat.zero_add]); (refine Mine.foldA ?_; intro ak)
 walk_at "~"
 unfold Mine.Stop
 with_reducible rename (_ == sysModules) = false => hlo
 with_reducible rename PyProof.V.FlatPairs _ _ _ => hfp
 with_reducible rename Obj.IsDictOf _ _ (strPairs _) => hdd
 have hTD : Mine.TD PySem.Challenge.rw_ku0016_01.row.prog w _ [(Mine.mk x, 1)] := ⟨_, hdd, hfp⟩
 refine Mine.for_range (σ := Addr × Obj × List (Str × Int)) (fun c => [(c.1, c.2.1)]) news (fun c => [(Str.ofString "ways", .ref c.1)]) [Str.ofString "less", Str.ofString "now", Str.ofString "place", Str.ofString "left"] (fun i c => (c.1 == sysModules) = false ∧ Mine.TD PySem.Challenge.rw_ku0016_01.row.prog w c.2.1 c.2.2 ∧ c.2.2 = Mine.ordersL i [(Mine.mk x, 1)]) (_, _, [(Mine.mk x, 1)]) (by assumption) (by assumption) (by assumption) (by omega) rfl ?hk ?hp ?turn ?done
 case hk => intro p hp; rcases List.mem_singleton.mp hp with rfl; rfl
 case hp => exact ⟨hlo, hTD, rfl⟩
 case turn =>
  ((repeat ((with_reducible rename Fr g' L' _ _ => Fx9); clear Fx9)); (repeat ((with_reducible rename News g' L' _ _ => Nx9); clear Nx9)))
  clear hlo hfp hdd hTD
  refine Mine.tq3 ?_
  intro d o c i ti u2 I h tk oI hi hoI hP F5 N5
  (try k_unmd); walk_at "f"
  ((first | refine Mine.exE hP ?_ | refine Mine.anE hP ?_); intro hP1 zo54; clear hP; (first | refine Mine.exE zo54 ?_ | refine Mine.anE zo54 ?_); intro hP2 hP3; clear zo54)
  (try dsimp only at hP1 hP2 hP3)
  dsimp only [kstB] at F5
  dsimp only [List.cons_append, List.nil_append] at N5
  (try k_unmd); walk_at "f"
  have hT := hP2
  ((first | refine Mine.exE hP2 ?_ | refine Mine.anE hP2 ?_); intro kvs zo55; clear hP2; (first | refine Mine.exE zo55 ?_ | refine Mine.anE zo55 ?_); intro hkd hkf; clear zo55)
  walk_at "~"
  unfold Mine.Stop
  with_reducible rename (_ == sysModules) = false => hlo2
  with_reducible rename _ ∧ _ ∧ AllLt _ _ => hlt
  ((first | refine Mine.exE hlt ?_ | refine Mine.anE hlt ?_); intro hl1 zo56; clear hlt; (first | refine Mine.exE zo56 ?_ | refine Mine.anE zo56 ?_); intro hl2 hl3; clear zo56)
  with_reducible rename Obj.IsDictOf (PySem.strKind _ _) _ [] => hdd
  have hTD : Mine.TD PySem.Challenge.rw_ku0016_01.row.prog w _ [] := ⟨_, hdd, PyProof.V.FlatPairs.nil⟩
  have hq := hok i hi
  rw [← hP3] at hq
  ((first | refine Mine.exE hq ?_ | refine Mine.anE hq ?_); intro hq1 hq2; clear hq)
  refine Mine.for_keys (σ := Obj × List (Str × Int)) (fun c => [(_, c.1)]) ((d, o) :: (I, oI) :: news) (fun c => []) [Str.ofString "place", Str.ofString "left"] (fun j e => Mine.TD PySem.Challenge.rw_ku0016_01.row.prog w e.1 e.2 ∧ e.2 = ((c.map (·.1)).take j).foldl (Mine.ordText c) [] ∧ e.2.length ≤ 1000 * j) (_, []) (by assumption) (by assumption) hP1 hT (List.mem_cons_self ..) rfl ?hk2 ?hp2 ?turn2 ?done2
  case hk2 => intro p hp; cases hp
  case hp2 => exact ⟨hTD, rfl, Nat.zero_le _⟩
  case turn2 =>
   ((repeat ((with_reducible rename Fr g' L' _ _ => Fx9); clear Fx9)); (repeat ((with_reducible rename News g' L' _ _ => Nx9); clear Nx9)))
   clear hdd hTD
   refine Mine.tq2 ?_
   intro o2 e j now n9 t9 u3 I2 h tk oI2 hj hoI2 hP F5 N5
   (try k_unmd); walk_at "f"
   ((first | refine Mine.exE hP ?_ | refine Mine.anE hP ?_); intro hP4 zo57; clear hP; (first | refine Mine.exE zo57 ?_ | refine Mine.anE zo57 ?_); intro hP5 hP6; clear zo57)
   (try dsimp only at hP4 hP5 hP6)
   obtain ⟨y, rfl⟩ : ∃ y, now = Mine.mk y := ⟨_, (Mine.mk_toList now).symm⟩
   ((first | refine Mine.exE (hq2 _ (List.mem_of_getElem? hj)) ?_ | refine Mine.anE (hq2 _ (List.mem_of_getElem? hj)) ?_); intro hy1 zo58; (first | refine Mine.exE zo58 ?_ | refine Mine.anE zo58 ?_); intro hy2 hy3; clear zo58)
   (try dsimp only at hy1 hy2 hy3)
   rw [Mine.mk_length] at hy1 hy2
   rw [Mine.mk_list] at hy3
   have hhas := Mine.kdpHas_at hj
   have hml : (Mine.mk y).length = y.length := Mine.mk_length y
   dsimp only [kstB] at F5
   dsimp only [List.cons_append, List.nil_append] at N5
   (try k_unmd); walk_at "f"
   walk_at "~"
   unfold Mine.Stop
   with_reducible rename IsRange _ _ _ _ _ _ _ _ => hrg
   have hz : ((Mine.mk y).length : Int) - 2 = ((y.length - 2 : Nat) : Int) := by omega
   rw [hz] at hrg
   have hjc : j < c.length := (List.getElem?_eq_some_iff.mp hj).1
   have hl4 := Mine.allLt_ne hl3
   refine Mine.for_range (σ := Obj × List (Str × Int)) (fun c => [(_, c.1)]) ((I2, oI2) :: (d, o) :: (I, oI) :: news) (fun c => []) [Str.ofString "left"] (fun p f => Mine.TD PySem.Challenge.rw_ku0016_01.row.prog w f.1 f.2 ∧ f.2 = (List.range p).foldl (Mine.ordPlace (kdpLook c (Mine.mk y) 0) y) e ∧ f.2.length ≤ 1000 * j + p) (o2, e) (by assumption) (by assumption) hrg (by omega) rfl ?hk3 ?hp3 ?turn3 ?done3
   case hk3 => intro p hp; cases hp
   case hp3 => exact ⟨hP4, rfl, hP6⟩
   case turn3 =>
    ((repeat ((with_reducible rename Fr g' L' _ _ => Fx9); clear Fx9)); (repeat ((with_reducible rename News g' L' _ _ => Nx9); clear Nx9)))
    refine Mine.tq2 ?_
    intro o3 f q t8 u4 I3 h tk oI3 hq hoI3 hP F5 N5
    (try k_unmd); walk_at "f"
    ((first | refine Mine.exE hP ?_ | refine Mine.anE hP ?_); intro hP7 zo59; clear hP; (first | refine Mine.exE zo59 ?_ | refine Mine.anE zo59 ?_); intro hP8 hP9; clear zo59)
    (try dsimp only at hP7 hP8 hP9)
    have hn2 := Mine.iter_ne N5 (by k_mem) (by k_mem) hoI2 (Mine.td_isIter hP7)
    have hn3 := Mine.iter_ne N5 (by k_mem) (by k_mem) hoI3 (Mine.td_isIter hP7)
    ((first | refine Mine.exE hP7 ?_ | refine Mine.anE hP7 ?_); intro kvs3 zo60; clear hP7; (first | refine Mine.exE zo60 ?_ | refine Mine.anE zo60 ?_); intro hkd3 hkf3; clear zo60)
    dsimp only [kstB] at F5
    dsimp only [List.cons_append, List.nil_append] at N5
    (try k_unmd); walk_at "f"
    have hq3 : q + 2 < y.length := by omega
    have hE := Mine.esc_iff hq3
    by_cases hEq : Mine.escAt y q = true
    ·((first | refine Mine.exE (hy3 q hEq) ?_ | refine Mine.anE (hy3 q hEq) ?_); intro hx1 hx2)
     have hsu := Mine.slice_unq hq3
     rw [hEq] at hE
     walk_at "~"
     ·rw [Mine.cut_eq] at hf9
      ((try dsimp only); (try k_unmd); (try k_unfold); (try unfold Mine.LpPost); (try dsimp only); (first | (with_reducible rename Fr g' L' _ _ => hF9) | rename Fr g' L' _ _ => hF9); (first | (with_reducible rename News g' L' _ _ => hN9) | rename News g' L' _ _ => hN9); refine Mine.lp_end (o9, kdpPut f (Mine.mk (Mine.cutAt y q)) (kdpLook f (Mine.mk (Mine.cutAt y q)) 0 + kdpLook c (Mine.mk y) 0)) hF9 hN9 ?z24n ?z24i ?z24o ?z24k ?z24r ?z24p; (case z24k => walk_at "h"); (case z24n => first | (k_whole; (walk_at "n"); done) | kst_in); (case z24i => k_mem); (case z24o => first | exact List.forall_mem_nil _ | (intro p hp; rcases List.mem_singleton.mp hp with rfl; first | exact Mine.td_iter (by assumption) | exact Mine.td_isIter (by assumption)) | simp [Mine.isIter, Mine.iterNames, W.listOf]); (case z24r => walk_at "o"); (case z24p => exact ⟨⟨_, hd9, hf9⟩, by rw [List.range_succ, List.foldl_append, ← hP8]; exact (if_pos hEq).symm, by have := kdpPut_len f (Mine.mk (Mine.cutAt y q)) (kdpLook f (Mine.mk (Mine.cutAt y q)) 0 + kdpLook c (Mine.mk y) 0); dsimp only; omega⟩))
    ·rw [Bool.not_eq_true] at hEq
     walk_at "~"
     ·((try dsimp only); (try k_unmd); (try k_unfold); (try unfold Mine.LpPost); (try dsimp only); (first | (with_reducible rename Fr g' L' _ _ => hF9) | rename Fr g' L' _ _ => hF9); (first | (with_reducible rename News g' L' _ _ => hN9) | rename News g' L' _ _ => hN9); refine Mine.lp_end (o3, f) hF9 hN9 ?z25n ?z25i ?z25o ?z25k ?z25r ?z25p; (case z25k => walk_at "h"); (case z25n => first | (k_whole; (walk_at "n"); done) | kst_in); (case z25i => k_mem); (case z25o => first | exact List.forall_mem_nil _ | (intro p hp; rcases List.mem_singleton.mp hp with rfl; first | exact Mine.td_iter (by assumption) | exact Mine.td_isIter (by assumption)) | simp [Mine.isIter, Mine.iterNames, W.listOf]); (case z25r => walk_at "o"); (case z25p => exact ⟨⟨_, hkd3, hkf3⟩, by rw [List.range_succ, List.foldl_append, ← hP8]; exact (if_neg (by rw [hEq]; exact Bool.false_ne_true)).symm, by dsimp only; omega⟩))
     ·((try dsimp only); (try k_unmd); (try k_unfold); (try unfold Mine.LpPost); (try dsimp only); (first | (with_reducible rename Fr g' L' _ _ => hF9) | rename Fr g' L' _ _ => hF9); (first | (with_reducible rename News g' L' _ _ => hN9) | rename News g' L' _ _ => hN9); refine Mine.lp_end (o3, f) hF9 hN9 ?z26n ?z26i ?z26o ?z26k ?z26r ?z26p; (case z26k => walk_at "h"); (case z26n => first | (k_whole; (walk_at "n"); done) | kst_in); (case z26i => k_mem); (case z26o => first | exact List.forall_mem_nil _ | (intro p hp; rcases List.mem_singleton.mp hp with rfl; first | exact Mine.td_iter (by assumption) | exact Mine.td_isIter (by assumption)) | simp [Mine.isIter, Mine.iterNames, W.listOf]); (case z26r => walk_at "o"); (case z26p => exact ⟨⟨_, hkd3, hkf3⟩, by rw [List.range_succ, List.foldl_append, ← hP8]; exact (if_neg (by rw [hEq]; exact Bool.false_ne_true)).symm, by dsimp only; omega⟩))
   case done3 =>
    ((repeat ((with_reducible rename Fr g' L' _ _ => Fx9); clear Fx9)); (repeat ((with_reducible rename News g' L' _ _ => Nx9); clear Nx9)))
    refine Mine.tq2 ?_
    intro o3 f u4 h tk hP F5 N5
    (try k_unmd); walk_at "f"
    ((first | refine Mine.exE hP ?_ | refine Mine.anE hP ?_); intro hP7 zo61; clear hP; (first | refine Mine.exE zo61 ?_ | refine Mine.anE zo61 ?_); intro hP8 hP9; clear zo61)
    (try dsimp only at hP7 hP8 hP9)
    dsimp only [kstB] at F5
    dsimp only [List.cons_append, List.nil_append] at N5
    (try k_unmd); walk_at "f"
    walk_at "~"
    have hjm : (c.map (·.1))[j]? = some (Mine.mk y) := by rw [List.getElem?_map, hj]; rfl
    ((try dsimp only); (try k_unmd); (try k_unfold); (try unfold Mine.LpPost); (try dsimp only); (first | (with_reducible rename Fr g' L' _ _ => hF9) | rename Fr g' L' _ _ => hF9); (first | (with_reducible rename News g' L' _ _ => hN9) | rename News g' L' _ _ => hN9); refine Mine.lp_end (o3, f) hF9 hN9 ?z27n ?z27i ?z27o ?z27k ?z27r ?z27p; (case z27k => walk_at "h"); (case z27n => first | (k_whole; (walk_at "n"); done) | kst_in); (case z27i => k_mem); (case z27o => first | exact List.forall_mem_nil _ | (intro p hp; rcases List.mem_singleton.mp hp with rfl; first | exact Mine.td_iter (by assumption) | exact Mine.td_isIter (by assumption)) | simp [Mine.isIter, Mine.iterNames, W.listOf]); (case z27r => walk_at "o"); (case z27p => exact ⟨hP7, by rw [List.take_add_one, hjm, List.foldl_append, ← hP5]; exact hP8, by dsimp only; omega⟩))
  case done2 =>
   ((repeat ((with_reducible rename Fr g' L' _ _ => Fx9); clear Fx9)); (repeat ((with_reducible rename News g' L' _ _ => Nx9); clear Nx9)))
   clear hdd hTD
   refine Mine.tq2 ?_
   intro o2 e u3 h tk hP F5 N5
   (try k_unmd); walk_at "f"
   ((first | refine Mine.exE hP ?_ | refine Mine.anE hP ?_); intro hP4 zo62; clear hP; (first | refine Mine.exE zo62 ?_ | refine Mine.anE zo62 ?_); intro hP5 hP6; clear zo62)
   (try dsimp only at hP4 hP5 hP6)
   dsimp only [kstB] at F5
   dsimp only [List.cons_append, List.nil_append] at N5
   (try k_unmd); walk_at "f"
   walk_at "~"
   ((try dsimp only); (try k_unmd); (try k_unfold); (try unfold Mine.LpPost); (try dsimp only); (first | (with_reducible rename Fr g' L' _ _ => hF9) | rename Fr g' L' _ _ => hF9); (first | (with_reducible rename News g' L' _ _ => hN9) | rename News g' L' _ _ => hN9); refine Mine.lp_end (?z28u, o2, e) hF9 hN9 ?z28n ?z28i ?z28o ?z28k ?z28r ?z28p; (case z28k => walk_at "h"); (case z28n => first | (k_whole; (walk_at "n"); done) | kst_in); (case z28i => k_mem); (case z28o => first | exact List.forall_mem_nil _ | (intro p hp; rcases List.mem_singleton.mp hp with rfl; first | exact Mine.td_iter (by assumption) | exact Mine.td_isIter (by assumption)) | simp [Mine.isIter, Mine.iterNames, W.listOf]); (case z28r => walk_at "o"); (case z28p => exact ⟨hlo2, hP4, by rw [hP5, hP3, List.take_of_length_le (by simp)]; rfl⟩))
 case done =>
  ((repeat ((with_reducible rename Fr g' L' _ _ => Fx9); clear Fx9)); (repeat ((with_reducible rename News g' L' _ _ => Nx9); clear Nx9)))
  clear hlo hfp hdd hTD
  refine Mine.tq3 ?_
  intro d o c u2 h tk hP F5 N5
  (try k_unmd); walk_at "f"
  ((first | refine Mine.exE hP ?_ | refine Mine.anE hP ?_); intro hP1 zo63; clear hP; (first | refine Mine.exE zo63 ?_ | refine Mine.anE zo63 ?_); intro hP2 hP3; clear zo63)
  (try dsimp only at hP1 hP2 hP3)
  dsimp only [kstB] at F5
  dsimp only [List.cons_append, List.nil_append] at N5
  (try k_unmd); walk_at "f"
  walk_at "~"
  exact hret _ [(d, o)] _ _ ⟨d, o, rfl, rfl, hP1, by rw [← hP3]; exact hP2⟩ (by k_asm) (by k_asm)
end
end
section
namespace Mine
noncomputable def CpEndJ {σ : Type} (J : (Str → Option Value) → Prop) (h₀ : Heap) (L C I : Addr) (oI : Obj) (Own : σ → List (Addr × Obj)) (tail : List (Addr × Obj)) (m : Str → Option Value) (P : Nat → σ → Prop) (i : Nat) (s₁ s₂ : Shared) : Prop :=
 ∃ (c : σ) (h' : Heap) (tk : Nat) (news' : List (Addr × Obj)) (oC : Obj) (mC : Str → Option Value), s₂ = { s₁ with heap := h', toks := tk } ∧ Fr h₀ L h' m ∧ News h₀ L h' news' ∧ (∀ p ∈ Own c ++ tail, p ∈ news') ∧ (I, oI) ∈ news' ∧ (C, oC) ∈ news' ∧ NsO oC mC ∧
  (∀ p ∈ Own c, isIter p.2 = false) ∧ C ∉ (Own c).map (·.1) ∧ P i c ∧ J mC
theorem CpEnd.toJ {σ : Type} {h₀ : Heap} {L C I : Addr} {oI : Obj} {Own : σ → List (Addr × Obj)} {tail : List (Addr × Obj)} {m : Str → Option Value} {P : Nat → σ → Prop} {i : Nat} {s₁ s₂ : Shared} (h : CpEnd h₀ L C I oI Own tail m P i s₁ s₂) :
  CpEndJ (fun _ => True) h₀ L C I oI Own tail m P i s₁ s₂ := by
 (refine Mine.foldG ?_; intro gk78; (first | refine Mine.exE h ?_ | refine Mine.anE h ?_); intro c zo64; clear h; (first | refine Mine.exE zo64 ?_ | refine Mine.anE zo64 ?_); intro h' zo65; clear zo64; (first | refine Mine.exE zo65 ?_ | refine Mine.anE zo65 ?_); intro tk zo66; clear zo65; (first | refine Mine.exE zo66 ?_ | refine Mine.anE zo66 ?_); intro news' zo67; clear zo66; (first | refine Mine.exE zo67 ?_ | refine Mine.anE zo67 ?_); intro oC zo68; clear zo67; (first | refine Mine.exE zo68 ?_ | refine Mine.anE zo68 ?_); intro mC zo69; clear zo68; (first | refine Mine.exE zo69 ?_ | refine Mine.anE zo69 ?_); intro a1 zo70; clear zo69; (first | refine Mine.exE zo70 ?_ | refine Mine.anE zo70 ?_); intro a2 zo71; clear zo70; (first | refine Mine.exE zo71 ?_ | refine Mine.anE zo71 ?_); intro a3 zo72; clear zo71; (first | refine Mine.exE zo72 ?_ | refine Mine.anE zo72 ?_); intro a4 zo73; clear zo72; (first | refine Mine.exE zo73 ?_ | refine Mine.anE zo73 ?_); intro a5 zo74; clear zo73; (first | refine Mine.exE zo74 ?_ | refine Mine.anE zo74 ?_); intro a6 zo75; clear zo74; (first | refine Mine.exE zo75 ?_ | refine Mine.anE zo75 ?_); intro a7 zo76; clear zo75; (first | refine Mine.exE zo76 ?_ | refine Mine.anE zo76 ?_); intro a8 zo77; clear zo76; (first | refine Mine.exE zo77 ?_ | refine Mine.anE zo77 ?_); intro a9 a10; clear zo77; unfold gk78; clear gk78)
 exact ⟨c, h', tk, news', oC, mC, a1, a2, a3, a4, a5, a6, a7, a8, a9, a10, trivial⟩
theorem cp_endJ {σ : Type} {J : (Str → Option Value) → Prop} {h₀ : Heap} {L C I : Addr} {oI oC : Obj} {Own : σ → List (Addr × Obj)} {tail news' : List (Addr × Obj)} {m mC : Str → Option Value} {P : Nat → σ → Prop} {i : Nat} {s₁ : Shared} {h' : Heap} {tk : Nat} (c : σ)
  (F : Fr h₀ L h' m) (N : News h₀ L h' news') (hC : NsO oC mC) (hn : ∀ p ∈ Own c ++ tail, p ∈ news') (hI : (I, oI) ∈ news') (hCm : (C, oC) ∈ news') (ho : ∀ p ∈ Own c, okOwn p.2 = true) (hp : P i c) (hJ : J mC) :
  CpEndJ J h₀ L C I oI Own tail m P i s₁ { s₁ with heap := h', toks := tk } := by
 refine ⟨c, h', tk, news', oC, mC, rfl, F, N, hn, hI, hCm, hC, fun p hp => okOwn_iter (ho p hp), fun q => ?_, hp, hJ⟩
 ((first | refine Mine.exE (List.mem_map.mp q) ?_ | refine Mine.anE (List.mem_map.mp q) ?_); intro p zo79; (first | refine Mine.exE zo79 ?_ | refine Mine.anE zo79 ?_); intro hp1 e; clear zo79)
 have e1 := (N p (hn p (List.mem_append.mpr (.inl hp1)))).1
 have e2 := (N _ hCm).1
 rw [e] at e1
 rw [show (C, oC).1 = C from rfl, e1] at e2
 have e3 : p.2 = oC := Option.some.inj e2
 exact okOwn_ns (ho p hp1) (e3 ▸ hC)
theorem cp_appJ {σ : Type} {J : (Str → Option Value) → Prop} {items : σ → List Value} {nn : σ → Nat} {h₀ : Heap} {L C D I : Addr} {oI oC : Obj} {Own : σ → List (Addr × Obj)} {tail news' : List (Addr × Obj)} {m mC : Str → Option Value} {P : Nat → σ → Prop} {i : Nat} {s₁ : Shared} {h' : Heap} {tk : Nat} {us : List Value} {v : Value} (cf : Value → σ)
  (F : Fr h₀ L h' m) (N : News h₀ L h' news') (hC : NsO oC mC) (hD : (D, listOf (us.toArray.push v) (us.length + 1)) ∈ news') (e1 : items (cf v) = us ++ [v]) (e2 : nn (cf v) = us.length + 1)
  (hn : ∀ p ∈ Own (cf v) ++ tail, p ∈ news') (hI : (I, oI) ∈ news') (hCm : (C, oC) ∈ news') (ho : ∀ p ∈ Own (cf v), okOwn p.2 = true) (hp : P i (cf v)) (hJ : J mC) :
  CpEndJ J h₀ L C I oI (fun c => (D, listOf (items c).toArray (nn c)) :: Own c) tail m P i s₁ { s₁ with heap := h', toks := tk } := by
 have e : listOf (us.toArray.push v) (us.length + 1) = listOf (items (cf v)).toArray (nn (cf v)) := by rw [e1, e2]; simp
 refine cp_endJ (cf v) F N hC ?_ hI hCm ?_ hp hJ
 ·intro p hp
  rcases List.mem_cons.mp hp with rfl | hp
  ·rw [← e]; exact hD
  ·exact hn p hp
 ·intro p hp
  rcases List.mem_cons.mp hp with rfl | hp
  ·rfl
  ·exact ho p hp
section
variable {prog : Program} {w : World} {A : Around} {s : Shared} {R : Result → Shared → Prop}
theorem gen_loop {elt : Expr} {gens : List Comprehension} {scope : Scope} {pos p : Pos} {d : Nat} {target : Expr} {rest : Sem Unit} {it acc : Value} {env : Env} (I : Nat → Shared → Prop)
  (hT : compTurn (.ListComp elt gens scope pos) d it acc env = (standAt p >>= fun _ => pyNext it >>= fun r => match r with
   | none => pure (.done .next)
   | some v => letOwnedTupleGo target it v >>= fun _ => assign target env v >>= fun _ => rest >>= fun _ => again (.compLoop (.ListComp elt gens scope pos) d it acc env)))
  (turn : ∀ n s, I n s → wpAny (model prog w) A (pyNext it) (fun r s₁ => match r with
   | none => R (.ok .next) s₁
   | some v => wpAny (model prog w) A (letOwnedTupleGo target it v) (fun _ s₁ => wpAny (model prog w) A (assign target env v) (fun _ s₂ => wpAny (model prog w) A rest (fun _ s₃ => ∃ m, m < n ∧ I m s₃)
     (notedBy (model prog w) A env fun e s' => R (.error e) s') s₂) (notedBy (model prog w) A env fun e s' => R (.error e) s') s₁) (notedBy (model prog w) A env fun e s' => R (.error e) s') s₁) (notedBy (model prog w) A env fun e s' => R (.error e) s') s)
  (n : Nat) (h : I n s) :
  codeAny (model prog w) A (.compLoop (.ListComp elt gens scope pos) d it acc env) R s := by
 refine codeAny_loop rfl I (fun n s hI => ?_) n h
 show wpAny _ A ((compTurn (.ListComp elt gens scope pos) d it acc env).onRaise (fun x => do noteFrame x env; theTreesLotGoes x)) _ _ s
 refine wpAny_noted ?_
 rw [hT]
 refine wpAny_bind (wpAny_standAt (wpAny_bind (wpAny_mono (turn n s hI) (fun r s₁ h₁ => ?_) fun _ _ h' => h')))
 cases r with
 | none => exact wpAny_pure h₁
 | some v =>
  exact wpAny_bind (wpAny_mono h₁ (fun _ s₂ h₂ => wpAny_bind (wpAny_mono h₂ (fun _ s₃ h₃ => wpAny_bind (wpAny_mono h₃ (fun _ s₄ h₄ => wpAny_pure ⟨rfl, h₄⟩) fun _ _ h' => h')) fun _ _ h' => h')) fun _ _ h' => h')
end
section
variable {prog : Program} {w : World} {A : Around} {s : Shared} {h₀ : Heap} {L : Addr}
theorem keep_fr {h h' : Heap} {m : Str → Option Value} {c : Addr} (F : Fr h₀ L h m) (hs : ∀ b o, b ≠ c → h.get? b = some o → h'.get? b = some o) (h1 : L ≠ c) (h2 : h₀.get? c = none) : Fr h₀ L h' m :=
 ⟨F.ns.at' fun o e => hs _ o h1 e, fun b o e => hs b o (fun q => by rw [q, h2] at e; cases e) (F.keep b o e), F.above⟩
noncomputable def CpEndB {σ μ : Type} (R9 : Obj → μ → Prop) (h₀ : Heap) (L C I : Addr) (oI : Obj) (Own : σ → List (Addr × Obj)) (tail : List (Addr × Obj)) (m : Str → Option Value) (P : Nat → σ → Prop) (i : Nat) (s₁ s₂ : Shared) : Prop :=
 ∃ (c : σ) (h' : Heap) (tk : Nat) (news' : List (Addr × Obj)) (oC : Obj) (mC : μ), s₂ = { s₁ with heap := h', toks := tk } ∧ Fr h₀ L h' m ∧ News h₀ L h' news' ∧ (∀ p ∈ Own c ++ tail, p ∈ news') ∧ (I, oI) ∈ news' ∧ (C, oC) ∈ news' ∧ R9 oC mC ∧
  (∀ p ∈ Own c, isIter p.2 = false) ∧ C ∉ (Own c).map (·.1) ∧ P i c
theorem gen_turnsB {σ μ : Type} {C : Addr} {R9 : Obj → μ → Prop} {elt : Expr} {gens : List Comprehension} {scope : Scope} {pos p : Pos} {d : Nat} {target : Expr} {rest : Sem Unit} {acc : Value} {cenv : Env} {I : Addr} {n : Nat} {W : Nat → Value → Prop} {fp : List Addr} {St : Nat → Heap → Prop} {m : Str → Option Value} {mC₀ : μ} {oC₀ : Obj}
  (upd : Nat → Value → μ → μ)
  (Own : σ → List (Addr × Obj)) (tail : List (Addr × Obj)) (P : Nat → σ → Prop) (c₀ : σ) {R : Result → Shared → Prop}
  (hT : compTurn (.ListComp elt gens scope pos) d (.ref I) acc cenv = (standAt p >>= fun _ => pyNext (.ref I) >>= fun r => match r with
   | none => pure (.done .next)
   | some v => letOwnedTupleGo target (.ref I) v >>= fun _ => assign target cenv v >>= fun _ => rest >>= fun _ => again (.compLoop (.ListComp elt gens scope pos) d (.ref I) acc cenv)))
  (hW : Walks prog w A I fp [I] n W St) (hit : ∀ i h, St i h → ∃ o, h.get? I = some o ∧ isIter o = true)
  (hfp : ∀ b ∈ fp, b = I ∨ (∃ o, h₀.get? b = some o) ∨ ∃ o, ∀ c : σ, (b, o) ∈ Own c ++ tail)
  (hI0 : h₀.get? I = none) (hIL : I ≠ L) (hC0 : h₀.get? C = none) (hCL : C ≠ L) (hCI : C ≠ I) (hCfp : C ∉ fp) (hCt : ∀ p ∈ tail, p.1 ≠ C) (hCo : C ∉ (Own c₀).map (·.1))
  (hoff : ∀ p ∈ Own c₀ ++ tail, p.1 ≠ I) (hst : St 0 s.heap)
  (store : ∀ (c : σ) i v h₁ tk₁ mC (Q : Unit → Shared → Prop) (E : Value → Shared → Prop), i < n → W i v → St (i + 1) h₁ → P i c → (∃ o, h₁.get? C = some o ∧ R9 o mC) → (∀ p ∈ Own c ++ tail, h₁.get? p.1 = some p.2) →
   (∀ h₂ tk₂, (∃ o, h₂.get? C = some o ∧ R9 o (upd i v mC)) → (∀ b o, b ≠ C → h₁.get? b = some o → h₂.get? b = some o) → Q () { s with heap := h₂, toks := tk₂ }) →
   wpAny (model prog w) A (letOwnedTupleGo target (.ref I) v) (fun _ s₁ => wpAny (model prog w) A (assign target cenv v) Q E s₁) E { s with heap := h₁, toks := tk₁ })
  (F : Fr h₀ L s.heap m) (N : News h₀ L s.heap (Own c₀ ++ ((C, oC₀) :: tail))) (hC : R9 oC₀ mC₀) (hP : P 0 c₀)
  (turn : ∀ (c : σ) i v h tk oI oC (mC : μ), i < n → W i v → isIter oI = true → P i c → R9 oC (upd i v mC) → Fr h₀ L h m → News h₀ L h (Own c ++ ((C, oC) :: (I, oI) :: tail)) →
   wpAny (model prog w) A rest (fun _ s₄ => CpEndB R9 h₀ L C I oI Own tail m P (i + 1) { s with heap := h, toks := tk } s₄) (fun _ _ => False) { s with heap := h, toks := tk })
  (done : ∀ (c : σ) h tk oC (mC : μ), P n c → R9 oC mC → (∀ p ∈ Own c ++ tail, p.1 ≠ C) → Fr h₀ L h m → News h₀ L h (Own c ++ ((C, oC) :: tail)) → R (.ok .next) { s with heap := h, toks := tk }) :
  codeAny (model prog w) A (.compLoop (.ListComp elt gens scope pos) d (.ref I) acc cenv) R s := by
 refine gen_loop (rest := rest) (fun k s' => ∃ (i : Nat) (c : σ) (h' : Heap) (tk : Nat) (oC : Obj) (mC : μ), s' = { s with heap := h', toks := tk } ∧ i ≤ n ∧ k = n + 1 - i ∧ St i h' ∧ Fr h₀ L h' m ∧ News h₀ L h' (Own c ++ ((C, oC) :: tail)) ∧ R9 oC mC ∧ P i c ∧
   (∀ p ∈ Own c ++ tail, p.1 ≠ I) ∧ C ∉ (Own c).map (·.1)) hT ?_ (n + 1) ⟨0, c₀, s.heap, s.toks, oC₀, mC₀, rfl, Nat.zero_le _, rfl, hst, F, N, hC, hP, hoff, hCo⟩
 intro k s' zr80
 (refine Mine.foldG ?_; intro gk97; (first | refine Mine.exE zr80 ?_ | refine Mine.anE zr80 ?_); intro i zo81; clear zr80; (first | refine Mine.exE zo81 ?_ | refine Mine.anE zo81 ?_); intro c zo82; clear zo81; (first | refine Mine.exE zo82 ?_ | refine Mine.anE zo82 ?_); intro h' zo83; clear zo82; (first | refine Mine.exE zo83 ?_ | refine Mine.anE zo83 ?_); intro tk zo84; clear zo83; (first | refine Mine.exE zo84 ?_ | refine Mine.anE zo84 ?_); intro oC zo85; clear zo84; (first | refine Mine.exE zo85 ?_ | refine Mine.anE zo85 ?_); intro mC zo86; clear zo85; (first | refine Mine.exE zo86 ?_ | refine Mine.anE zo86 ?_); intro zo87 zo88; clear zo86; (first | refine Mine.exE zo88 ?_ | refine Mine.anE zo88 ?_); intro hin zo89; clear zo88; (first | refine Mine.exE zo89 ?_ | refine Mine.anE zo89 ?_); intro zo90 zo91; clear zo89; (first | refine Mine.exE zo91 ?_ | refine Mine.anE zo91 ?_); intro hst' zo92; clear zo91; (first | refine Mine.exE zo92 ?_ | refine Mine.anE zo92 ?_); intro F' zo93; clear zo92; (first | refine Mine.exE zo93 ?_ | refine Mine.anE zo93 ?_); intro N' zo94; clear zo93; (first | refine Mine.exE zo94 ?_ | refine Mine.anE zo94 ?_); intro hC' zo95; clear zo94; (first | refine Mine.exE zo95 ?_ | refine Mine.anE zo95 ?_); intro hP' zo96; clear zo95; (first | refine Mine.exE zo96 ?_ | refine Mine.anE zo96 ?_); intro hoff' hCo'; clear zo96; unfold gk97; clear gk97; subst zo87; subst zo90)
 have next : ∀ h₁ : Heap, (∀ b o, b ∉ [I] → h'.get? b = some o → h₁.get? b = some o) → Fr h₀ L h₁ m ∧ News h₀ L h₁ (Own c ++ ((C, oC) :: tail)) := fun h₁ hk₁ =>
  ⟨⟨F'.ns.at' fun o e => hk₁ _ o (fun q => hIL (List.mem_singleton.mp q).symm) e, fun b o e => hk₁ b o (fun q => by rw [List.mem_singleton.mp q, hI0] at e; cases e) (F'.keep b o e), F'.above⟩,
   fun p hp => ⟨hk₁ _ _ (fun q => by
    rcases List.mem_append.mp hp with h | h
    ·exact hoff' p (List.mem_append.mpr (.inl h)) (List.mem_singleton.mp q)
    ·rcases List.mem_cons.mp h with rfl | h
     ·exact hCI (List.mem_singleton.mp q)
     ·exact hoff' p (List.mem_append.mpr (.inr h)) (List.mem_singleton.mp q)) (N' p hp).1, (N' p hp).2⟩⟩
 by_cases hlt : i < n
 ·refine hW.item i _ _ _ hlt hst' fun v h₁ tk₁ hv hst₁ hk₁ => ?_
  ((first | refine Mine.exE (next h₁ hk₁) ?_ | refine Mine.anE (next h₁ hk₁) ?_); intro F₁ N₁)
  have hnsC : ∃ o, h₁.get? C = some o ∧ R9 o mC := ⟨oC, (N₁ (C, oC) (List.mem_append.mpr (.inr (List.mem_cons_self ..)))).1, hC'⟩
  refine store c i v h₁ tk₁ mC _ _ hlt hv hst₁ hP' hnsC (fun p hp => (N₁ p (by
   rcases List.mem_append.mp hp with h | h
   ·exact List.mem_append.mpr (.inl h)
   ·exact List.mem_append.mpr (.inr (List.mem_cons_of_mem _ h)))).1) fun h₂ tk₂ hn₂ hs₂ => ?_
  ((first | refine Mine.exE hn₂ ?_ | refine Mine.anE hn₂ ?_); intro oC₂ zo98; clear hn₂; (first | refine Mine.exE zo98 ?_ | refine Mine.anE zo98 ?_); intro hoC₂ hN₂; clear zo98)
  have F₂ := keep_fr F₁ hs₂ (fun q => hCL q.symm) hC0
  ((first | refine Mine.exE (hit _ _ hst₁) ?_ | refine Mine.anE (hit _ _ hst₁) ?_); intro oI zo99; (first | refine Mine.exE zo99 ?_ | refine Mine.anE zo99 ?_); intro hoI hisI; clear zo99)
  have hoI₂ : h₂.get? I = some oI := hs₂ I _ (fun q => hCI q.symm) hoI
  have hst₂ : St (i + 1) h₂ := hW.frame _ _ _ hst₁ fun b hb o e => hs₂ b o (fun q => hCfp (q ▸ hb)) e
  have N₂ : News h₀ L h₂ (Own c ++ ((C, oC₂) :: (I, oI) :: tail)) := by
   intro p hp
   rcases List.mem_append.mp hp with h | h
   ·have q := N₁ p (List.mem_append.mpr (.inl h))
    exact ⟨hs₂ p.1 _ (fun e => hCo' (e ▸ List.mem_map_of_mem h)) q.1, q.2⟩
   ·rcases List.mem_cons.mp h with rfl | h
    ·exact ⟨hoC₂, hCL, hC0⟩
    ·rcases List.mem_cons.mp h with rfl | h
     ·exact ⟨hoI₂, hIL, hI0⟩
     ·have q := N₁ p (List.mem_append.mpr (.inr (List.mem_cons_of_mem _ h)))
      exact ⟨hs₂ p.1 _ (hCt p h) q.1, q.2⟩
  refine wpAny_mono (turn c i v h₂ _ oI oC₂ mC hlt hv hisI hP' hN₂ F₂ N₂) (fun y s₃ h₃ => ?_) fun _ _ f => f.elim
  (refine Mine.foldG ?_; intro gk115; (first | refine Mine.exE h₃ ?_ | refine Mine.anE h₃ ?_); intro c' zo100; clear h₃; (first | refine Mine.exE zo100 ?_ | refine Mine.anE zo100 ?_); intro h₅ zo101; clear zo100; (first | refine Mine.exE zo101 ?_ | refine Mine.anE zo101 ?_); intro tk₅ zo102; clear zo101; (first | refine Mine.exE zo102 ?_ | refine Mine.anE zo102 ?_); intro news' zo103; clear zo102; (first | refine Mine.exE zo103 ?_ | refine Mine.anE zo103 ?_); intro oC₅ zo104; clear zo103; (first | refine Mine.exE zo104 ?_ | refine Mine.anE zo104 ?_); intro mC₅ zo105; clear zo104; (first | refine Mine.exE zo105 ?_ | refine Mine.anE zo105 ?_); intro zo106 zo107; clear zo105; (first | refine Mine.exE zo107 ?_ | refine Mine.anE zo107 ?_); intro F₅ zo108; clear zo107; (first | refine Mine.exE zo108 ?_ | refine Mine.anE zo108 ?_); intro N₅ zo109; clear zo108; (first | refine Mine.exE zo109 ?_ | refine Mine.anE zo109 ?_); intro hn zo110; clear zo109; (first | refine Mine.exE zo110 ?_ | refine Mine.anE zo110 ?_); intro hI' zo111; clear zo110; (first | refine Mine.exE zo111 ?_ | refine Mine.anE zo111 ?_); intro hCm zo112; clear zo111; (first | refine Mine.exE zo112 ?_ | refine Mine.anE zo112 ?_); intro hN₅ zo113; clear zo112; (first | refine Mine.exE zo113 ?_ | refine Mine.anE zo113 ?_); intro hnot zo114; clear zo113; (first | refine Mine.exE zo114 ?_ | refine Mine.anE zo114 ?_); intro hCn hP₅; clear zo114; unfold gk115; clear gk115; subst zo106)
  refine ⟨n + 1 - (i + 1), by omega, i + 1, c', h₅, tk₅, oC₅, mC₅, rfl, hlt, rfl, ?_, F₅, ?_, hN₅, hP₅, ?_, hCn⟩
  ·refine hW.frame _ _ _ hst₂ fun b hb o e => ?_
   rcases hfp b hb with q | ⟨o', q⟩ | ⟨o', q⟩
   ·rw [q] at e ⊢; rw [hoI₂] at e; cases e; exact (N₅ _ hI').1
   ·have := F₂.keep b o' q; rw [this] at e; cases e; exact F₅.keep b _ q
   ·have e1 := (N₂ (b, o') (by
     rcases List.mem_append.mp (q c) with h | h
     ·exact List.mem_append.mpr (.inl h)
     ·exact List.mem_append.mpr (.inr (List.mem_cons_of_mem _ (List.mem_cons_of_mem _ h))))).1
    rw [show (b, o').1 = b from rfl] at e1
    rw [e1] at e; cases e; exact (N₅ _ (hn _ (q c'))).1
  ·intro p hp
   rcases List.mem_append.mp hp with h | h
   ·exact N₅ p (hn p (List.mem_append.mpr (.inl h)))
   ·rcases List.mem_cons.mp h with rfl | h
    ·exact N₅ _ hCm
    ·exact N₅ p (hn p (List.mem_append.mpr (.inr h)))
  ·intro p hp hq
   rcases List.mem_append.mp hp with h | h
   ·have e1 := (N₅ p (hn p hp)).1
    have e2 := (N₅ _ hI').1
    rw [hq] at e1; rw [e1] at e2
    have e3 : p.2 = oI := Option.some.inj e2
    have := hnot p h
    rw [e3, hisI] at this; cases this
   ·exact hoff p (List.mem_append.mpr (.inr h)) hq
 ·have hni : i = n := by omega
  subst hni
  refine hW.done _ _ _ hst' fun h₁ tk₁ hk₁ => ?_
  ((first | refine Mine.exE (next h₁ hk₁) ?_ | refine Mine.anE (next h₁ hk₁) ?_); intro F₁ N₁)
  exact done c h₁ tk₁ oC mC hP' hC' (fun p hp => (List.mem_append.mp hp).elim (fun h e => hCo' (e ▸ List.mem_map_of_mem h)) fun h => hCt p h) F₁ N₁
theorem gen_turns {σ : Type} {elt : Expr} {gens : List Comprehension} {scope : Scope} {pos p : Pos} {d : Nat} {target : Expr} {rest : Sem Unit} {acc : Value} {cenv : Env} {I : Addr} {n : Nat} {W : Nat → Value → Prop} {fp : List Addr} {St : Nat → Heap → Prop} {m mC₀ : Str → Option Value} {oC₀ : Obj}
  (upd : Nat → Value → (Str → Option Value) → Str → Option Value) (J : (Str → Option Value) → Prop) (hJ0 : J mC₀) (hJu : ∀ i v mC, J mC → J (upd i v mC))
  (Own : σ → List (Addr × Obj)) (tail : List (Addr × Obj)) (P : Nat → σ → Prop) (c₀ : σ) {R : Result → Shared → Prop}
  (hT : compTurn (.ListComp elt gens scope pos) d (.ref I) acc cenv = (standAt p >>= fun _ => pyNext (.ref I) >>= fun r => match r with
   | none => pure (.done .next)
   | some v => letOwnedTupleGo target (.ref I) v >>= fun _ => assign target cenv v >>= fun _ => rest >>= fun _ => again (.compLoop (.ListComp elt gens scope pos) d (.ref I) acc cenv)))
  (hW : Walks prog w A I fp [I] n W St) (hit : ∀ i h, St i h → ∃ o, h.get? I = some o ∧ isIter o = true)
  (hfp : ∀ b ∈ fp, b = I ∨ (∃ o, h₀.get? b = some o) ∨ ∃ o, ∀ c : σ, (b, o) ∈ Own c ++ tail)
  (hI0 : h₀.get? I = none) (hIL : I ≠ L) (hC0 : h₀.get? cenv.locals = none) (hCL : cenv.locals ≠ L) (hCI : cenv.locals ≠ I) (hCfp : cenv.locals ∉ fp) (hCt : ∀ p ∈ tail, p.1 ≠ cenv.locals) (hCo : cenv.locals ∉ (Own c₀).map (·.1))
  (hoff : ∀ p ∈ Own c₀ ++ tail, p.1 ≠ I) (hst : St 0 s.heap)
  (store : ∀ (c : σ) i v h₁ tk₁ mC (Q : Unit → Shared → Prop) (E : Value → Shared → Prop), i < n → W i v → St (i + 1) h₁ → P i c → h₁.Ns cenv.locals mC → (∀ p ∈ Own c ++ tail, h₁.get? p.1 = some p.2) →
   (∀ h₂ tk₂, h₂.Ns cenv.locals (upd i v mC) → (∀ b o, b ≠ cenv.locals → h₁.get? b = some o → h₂.get? b = some o) → Q () { s with heap := h₂, toks := tk₂ }) →
   wpAny (model prog w) A (letOwnedTupleGo target (.ref I) v) (fun _ s₁ => wpAny (model prog w) A (assign target cenv v) Q E s₁) E { s with heap := h₁, toks := tk₁ })
  (F : Fr h₀ L s.heap m) (N : News h₀ L s.heap (Own c₀ ++ ((cenv.locals, oC₀) :: tail))) (hC : NsO oC₀ mC₀) (hP : P 0 c₀)
  (turn : ∀ (c : σ) i v h tk oI oC (mC : Str → Option Value), i < n → W i v → isIter oI = true → P i c → NsO oC (upd i v mC) → J (upd i v mC) → Fr h₀ L h m → News h₀ L h (Own c ++ ((cenv.locals, oC) :: (I, oI) :: tail)) →
   wpAny (model prog w) A rest (fun _ s₄ => CpEndJ J h₀ L cenv.locals I oI Own tail m P (i + 1) { s with heap := h, toks := tk } s₄) (fun _ _ => False) { s with heap := h, toks := tk })
  (done : ∀ (c : σ) h tk oC (mC : Str → Option Value), P n c → NsO oC mC → J mC → (∀ p ∈ Own c ++ tail, p.1 ≠ cenv.locals) → Fr h₀ L h m → News h₀ L h (Own c ++ ((cenv.locals, oC) :: tail)) → R (.ok .next) { s with heap := h, toks := tk }) :
  codeAny (model prog w) A (.compLoop (.ListComp elt gens scope pos) d (.ref I) acc cenv) R s := by
 refine gen_turnsB (C := cenv.locals) (R9 := fun o mC => NsO o mC ∧ J mC) upd Own tail P c₀ hT hW hit hfp hI0 hIL hC0 hCL hCI hCfp hCt hCo hoff hst ?_ F N ⟨hC, hJ0⟩ hP ?_ ?_
 ·intro c i v h₁ tk₁ mC Q E hi hv hs hp ho hg hQ
  refine exE ho fun o ho => store c i v h₁ tk₁ mC Q E hi hv hs hp (ho.2.1.ns ho.1) hg fun h₂ tk₂ hn hk => hQ h₂ tk₂ ?_ hk
  exact exE (ns_obj hn) fun o' h' => ⟨o', h'.1, h'.2, hJu i v mC ho.2.2⟩
 ·intro c i v h tk oI oC mC hi hv hI hp hC F' N'
  refine wpAny_mono (turn c i v h tk oI oC mC hi hv hI hp hC.1 hC.2 F' N') (fun _ s₄ h => ?_) fun _ _ h => h
  (refine Mine.foldG ?_; intro gk131; (first | refine Mine.exE h ?_ | refine Mine.anE h ?_); intro c zo116; clear h; (first | refine Mine.exE zo116 ?_ | refine Mine.anE zo116 ?_); intro h' zo117; clear zo116; (first | refine Mine.exE zo117 ?_ | refine Mine.anE zo117 ?_); intro tk zo118; clear zo117; (first | refine Mine.exE zo118 ?_ | refine Mine.anE zo118 ?_); intro news' zo119; clear zo118; (first | refine Mine.exE zo119 ?_ | refine Mine.anE zo119 ?_); intro oC zo120; clear zo119; (first | refine Mine.exE zo120 ?_ | refine Mine.anE zo120 ?_); intro mC zo121; clear zo120; (first | refine Mine.exE zo121 ?_ | refine Mine.anE zo121 ?_); intro a1 zo122; clear zo121; (first | refine Mine.exE zo122 ?_ | refine Mine.anE zo122 ?_); intro a2 zo123; clear zo122; (first | refine Mine.exE zo123 ?_ | refine Mine.anE zo123 ?_); intro a3 zo124; clear zo123; (first | refine Mine.exE zo124 ?_ | refine Mine.anE zo124 ?_); intro a4 zo125; clear zo124; (first | refine Mine.exE zo125 ?_ | refine Mine.anE zo125 ?_); intro a5 zo126; clear zo125; (first | refine Mine.exE zo126 ?_ | refine Mine.anE zo126 ?_); intro a6 zo127; clear zo126; (first | refine Mine.exE zo127 ?_ | refine Mine.anE zo127 ?_); intro a7 zo128; clear zo127; (first | refine Mine.exE zo128 ?_ | refine Mine.anE zo128 ?_); intro a8 zo129; clear zo128; (first | refine Mine.exE zo129 ?_ | refine Mine.anE zo129 ?_); intro a9 zo130; clear zo129; (first | refine Mine.exE zo130 ?_ | refine Mine.anE zo130 ?_); intro a10 a11; clear zo130; unfold gk131; clear gk131)
  exact ⟨c, h', tk, news', oC, mC, a1, a2, a3, a4, a5, a6, ⟨a7, a11⟩, a8, a9, a10⟩
 ·exact fun c h tk oC mC hp hC hne F' N' => done c h tk oC mC hp hC.1 hC.2 hne F' N'
end
section
variable {prog : Program} {w : World} {A : Around} {E : Value → Shared → Prop} {s : Shared} {env : Env} {h₀ : Heap} {L : Addr}
noncomputable def GenGo (prog : Program) (w : World) (A : Around) (env : Env) (elt : Expr) (gens : List Comprehension) (scope : Scope) (cl : List (Str × Addr)) (pos : Pos) (Q : Value → Shared → Prop) (E : Value → Shared → Prop) (it : Value) (s₂ : Shared) : Prop :=
 wpAny (model prog w) A (newList []) (fun acc s₃ => wpAny (model prog w) A (newFunctionEnv scope env.globals cl [] env.qual none .none (some env)) (fun cenv s₄ =>
  codeAny (model prog w) A (.compStart (.ListComp elt gens scope pos) 0 it acc { cenv with scope := relabel scope env }) (compPost (model prog w) A E none Q acc cenv.locals) s₄) E s₃) E s₂
theorem gen_eval {elt target iter : Expr} {ifs : List Expr} {more : List Comprehension} {scope : Scope} {cl : List (Str × Addr)} {pos : Pos} {Q : Value → Shared → Prop}
  (h : wpAny (model prog w) A (eval iter env) (fun xv s₁ => wpAny (model prog w) A (pyIter xv) (fun it s₂ => GenGo prog w A env elt (⟨target, iter, ifs, 0⟩ :: more) scope cl pos Q E it s₂) E s₁) E s)
  (hclos : closureFor scope env = pure cl) (hkind : scope.kind = .function) (hnames : ∀ y ∈ scope.names, y.2 = .local → scope.names.lookup y.1 = some .local)
  (hs : ∀ x, foldedSetIterable iter env x = pure x := by intro _; rfl) :
  wpAny (model prog w) A (eval (.ListComp elt (⟨target, iter, ifs, 0⟩ :: more) scope pos) env) Q E s := by
 rw [eval_ListComp]
 exact wpAny_comprehension_free (use := none) rfl hs hclos hkind hnames (wpAny_mono h (fun xv s₁ h₁ => wpAny_mono h₁ (fun it s₂ h₂ => h₂) fun _ _ e => e) fun _ _ e => e)
theorem go_mem {α : Type _} {d c p : α} {l t : List α} (hp : p ∈ d :: (l ++ t)) : p ∈ (d :: l) ++ (c :: t) := by
 rcases List.mem_cons.mp hp with rfl | hp
 ·exact List.mem_append.mpr (.inl (List.mem_cons_self ..))
 ·rcases List.mem_append.mp hp with h1 | h1
  ·exact List.mem_append.mpr (.inl (List.mem_cons_of_mem _ h1))
  ·exact List.mem_append.mpr (.inr (List.mem_cons_of_mem _ h1))
theorem gen_goG {σ : Type} {elt target iter : Expr} {ifs : List Expr} {more : List Comprehension} {scope : Scope} {cl : List (Str × Addr)} {pos p : Pos} {rest : Value → Env → Sem Unit} {Z : Value → Addr → Result → Shared → Prop} {I : Addr} {n : Nat} {W : Nat → Value → Prop} {fp : List Addr} {St : Nat → Heap → Prop} {m : Str → Option Value}
  (upd : Nat → Value → (Str → Option Value) → Str → Option Value)
  (items : σ → List Value) (nn : σ → Nat) (Own : σ → List (Addr × Obj)) (tail : List (Addr × Obj)) (P : Nat → σ → Prop) (c₀ : σ)
  (hT : ∀ acc cenv, compTurn (.ListComp elt (⟨target, iter, ifs, 0⟩ :: more) scope pos) 0 (.ref I) acc cenv = (standAt p >>= fun _ => pyNext (.ref I) >>= fun r => match r with
   | none => pure (.done .next)
   | some v => letOwnedTupleGo target (.ref I) v >>= fun _ => assign target cenv v >>= fun _ => rest acc cenv >>= fun _ => again (.compLoop (.ListComp elt (⟨target, iter, ifs, 0⟩ :: more) scope pos) 0 (.ref I) acc cenv)))
  (hW : Walks prog w A I fp [I] n W St) (hit : ∀ i h, St i h → ∃ o, h.get? I = some o ∧ isIter o = true)
  (hfp : ∀ b ∈ fp, b = I ∨ (∃ o, h₀.get? b = some o) ∨ ∃ o, ∀ c : σ, (b, o) ∈ Own c ++ tail) (hfs : ∀ b ∈ fp, b < s.heap.objs.size) (hIs : I < s.heap.objs.size)
  (hI0 : h₀.get? I = none) (hIL : I ≠ L) (hoff : ∀ p ∈ Own c₀ ++ tail, p.1 ≠ I) (hst : St 0 s.heap)
  (hcell : ∀ y ∈ scope.names, y.2 ≠ .cell) (hkind : scope.kind = .function)
  (hc1 : items c₀ = []) (hc2 : nn c₀ = 0)
  (F : Fr h₀ L s.heap m) (N : News h₀ L s.heap (Own c₀ ++ tail)) (hP : P 0 c₀)
  (store : ∀ (C : Addr) (c : σ) i v (s₁ : Shared) mC (Q : Unit → Shared → Prop) (E : Value → Shared → Prop), i < n → W i v → St (i + 1) s₁.heap → P i c → s₁.heap.Ns C mC → (∀ p ∈ Own c ++ tail, s₁.heap.get? p.1 = some p.2) →
   (∀ h₂ tk₂, h₂.Ns C (upd i v mC) → (∀ b o, b ≠ C → s₁.heap.get? b = some o → h₂.get? b = some o) → Q () { s₁ with heap := h₂, toks := tk₂ }) →
   wpAny (model prog w) A (letOwnedTupleGo target (.ref I) v) (fun _ s₁ => wpAny (model prog w) A (assign target (compEnvC scope cl C env) v) Q E s₁) E s₁)
  (turn : ∀ (D C : Addr) (c : σ) i v h tk oI oC (mC : Str → Option Value), D < C → (∀ p ∈ (I, oI) :: tail, p.1 < D) → i < n → W i v → isIter oI = true → P i c → NsO oC (upd i v mC) → Fr h₀ L h m → News h₀ L h ((D, listOf (items c).toArray (nn c)) :: (Own c ++ ((C, oC) :: (I, oI) :: tail))) →
   wpAny (model prog w) A (rest (.ref D) (compEnvC scope cl C env)) (fun _ s₄ => CpEnd h₀ L C I oI (fun c => (D, listOf (items c).toArray (nn c)) :: Own c) tail m P (i + 1) { s with heap := h, toks := tk } s₄) (fun _ _ => False) { s with heap := h, toks := tk })
  (done : ∀ (D C : Addr) (c : σ) h tk oC mC, P n c → NsO oC mC → (∀ p ∈ (D, listOf (items c).toArray (nn c)) :: Own c ++ tail, p.1 ≠ C) → C ≠ L → h₀.get? C = none → Fr h₀ L h m → News h₀ L h (((D, listOf (items c).toArray (nn c)) :: Own c) ++ ((C, oC) :: tail)) → Z (.ref D) C (.ok .next) { s with heap := h, toks := tk }) :
  wpAny (model prog w) A (newList []) (fun acc s₃ => wpAny (model prog w) A (newFunctionEnv scope env.globals cl [] env.qual none .none (some env)) (fun cenv s₄ =>
   codeAny (model prog w) A (.compStart (.ListComp elt (⟨target, iter, ifs, 0⟩ :: more) scope pos) 0 (.ref I) acc { cenv with scope := relabel scope env }) (Z acc cenv.locals) s₄) E s₃) E s := by
 refine wpAny_newObj_type ?_
 refine wpAny_newFunctionEnv hcell (by intro y hy; simp at hy) (fun h₁ hns₁ hsb₁ => ?_) hkind
 dsimp only at hns₁ hsb₁ ⊢
 have F1 := F.push { cls := .type "list", dict := none, data := .seq ([] : List Value).toArray }
 have N1 := News.push F N { cls := .type "list", dict := none, data := .seq ([] : List Value).toArray }
 generalize hH2 : s.heap.push { cls := .type "list", dict := none, data := .seq ([] : List Value).toArray } = H2 at *
 have hC : H2.objs.size = s.heap.objs.size + 1 := by rw [← hH2, Heap.size_push]
 have F2 := F1.push { cls := .type "dict", data := .dict #[] }
 have hC0 : h₀.get? H2.objs.size = none := by
  cases q : h₀.get? H2.objs.size with
  | none => rfl
  | some o => exact absurd (Heap.lt_size (F1.keep _ _ q)) (Nat.lt_irrefl _)
 have hCL : H2.objs.size ≠ L := fun e => absurd F1.ns.lt (e ▸ Nat.lt_irrefl _)
 have F3 : Fr h₀ L h₁ m := sameBut_fr F2 hsb₁ (fun q => hCL q.symm) hC0
 have hlt : ∀ b o, H2.get? b = some o → h₁.get? b = some o := fun b o e => (hsb₁.2 b (Nat.ne_of_lt (Heap.lt_size e))).trans (Heap.get?_push_of_some _ e)
 ((first | refine Mine.exE (ns_obj hns₁) ?_ | refine Mine.anE (ns_obj hns₁) ?_); intro oC zo132; (first | refine Mine.exE zo132 ?_ | refine Mine.anE zo132 ?_); intro hoC hNC; clear zo132)
 have hold : ∀ b o, s.heap.get? b = some o → h₁.get? b = some o := fun b o e => hlt b o (hH2 ▸ Heap.get?_push_of_some _ e)
 have hst₁ : St 0 h₁ := hW.frame _ _ _ hst fun b _ o e => hold b o e
 have hnl : ∀ p ∈ (s.heap.objs.size, ({ cls := .type "list", dict := none, data := .seq ([] : List Value).toArray } : Obj)) :: (Own c₀ ++ tail), p.1 < H2.objs.size := fun p hp => Heap.lt_size (N1 p hp).1
 have N3 : News h₀ L h₁ ((s.heap.objs.size, listOf (items c₀).toArray (nn c₀)) :: (Own c₀ ++ ((H2.objs.size, oC) :: tail))) := by
  rw [hc1, hc2]
  intro p hp
  rcases List.mem_cons.mp hp with rfl | hp
  ·have q := N1 _ (List.mem_cons_self ..)
   exact ⟨hlt _ _ q.1, q.2⟩
  ·rcases List.mem_append.mp hp with h | h
   ·have q := N1 p (List.mem_cons_of_mem _ (List.mem_append.mpr (.inl h)))
    exact ⟨hlt _ _ q.1, q.2⟩
   ·rcases List.mem_cons.mp h with rfl | h
    ·exact ⟨hoC, hCL, hC0⟩
    ·have q := N1 p (List.mem_cons_of_mem _ (List.mem_append.mpr (.inr h)))
     exact ⟨hlt _ _ q.1, q.2⟩
 have hDI : s.heap.objs.size ≠ I := fun q => Nat.lt_irrefl _ (q ▸ hIs)
 have loop : ∀ s₃ : Shared, s₃ = { s with heap := h₁, toks := s.toks + ([] : List (Str × Value)).length } →
   codeAny (model prog w) A (.compLoop (.ListComp elt (⟨target, iter, ifs, 0⟩ :: more) scope pos) 0 (.ref I) (.ref s.heap.objs.size) (compEnvC scope cl H2.objs.size env))
    (Z (.ref s.heap.objs.size) H2.objs.size) s₃ := by
  rintro s₃ rfl
  refine gen_turns (cenv := compEnvC scope cl H2.objs.size env) (rest := rest (.ref s.heap.objs.size) (compEnvC scope cl H2.objs.size env)) upd (fun _ => True) trivial (fun _ _ _ _ => trivial) (fun c => (s.heap.objs.size, listOf (items c).toArray (nn c)) :: Own c) tail P c₀ (hT _ _) hW hit ?_ hI0 hIL hC0 hCL ?_ ?_ ?_ ?_ ?_ hst₁ ?_ F3 N3 hNC hP ?_ ?_
  ·intro b hb
   rcases hfp b hb with h | h | ⟨o, h⟩
   ·exact .inl h
   ·exact .inr (.inl h)
   ·exact .inr (.inr ⟨o, fun c => List.mem_cons_of_mem _ (h c)⟩)
  ·intro q; have q' : H2.objs.size = I := q; have h5 := hIs; have h6 := hC; rw [← q', hC] at h5; exact absurd h5 (Nat.not_lt.mpr (Nat.le_succ _))
  ·intro q; have q' : H2.objs.size < s.heap.objs.size := hfs _ q; rw [hC] at q'; exact absurd q' (Nat.not_lt.mpr (Nat.le_succ _))
  ·intro p hp; exact Nat.ne_of_lt (hnl p (List.mem_cons_of_mem _ (List.mem_append.mpr (.inr hp))))
  ·intro q
   ((first | refine Mine.exE (List.mem_map.mp q) ?_ | refine Mine.anE (List.mem_map.mp q) ?_); intro p zo133; (first | refine Mine.exE zo133 ?_ | refine Mine.anE zo133 ?_); intro hp e; clear zo133)
   rcases List.mem_cons.mp hp with rfl | hp
   ·have : s.heap.objs.size = H2.objs.size := e
    omega
   ·exact absurd (hnl p (List.mem_cons_of_mem _ (List.mem_append.mpr (.inl hp)))) (by rw [e]; exact Nat.lt_irrefl _)
  ·intro p hp
   rcases List.mem_cons.mp hp with rfl | hp
   ·exact hDI
   ·exact hoff p hp
  ·intro c i v h tk mC Q' E' hi hv hs hPi hN hl hQ
   exact store _ c i v _ mC Q' E' hi hv hs hPi hN (fun p hp => hl p (List.mem_cons_of_mem _ hp)) hQ
  ·intro c i v h tk oI oC' mC hi hv ho hPi hN _ F' N'
   refine wpAny_mono (?_ : wpAny _ _ _ _ (fun _ _ => False) _) (fun _ _ h => CpEnd.toJ h) (fun _ _ f => f.elim)
   refine turn _ _ c i v h tk oI oC' mC (by rw [hC]; exact Nat.lt_succ_self _) (fun p hp => ?_) hi hv ho hPi hN F' N'
   rcases List.mem_cons.mp hp with rfl | hp
   ·exact hIs
   ·exact Heap.lt_size (N p (List.mem_append.mpr (.inr hp))).1
  ·exact fun c h tk oC' mC hPn hN _ hne F' N' => done _ _ c h tk oC' mC hPn hN hne hCL hC0 F' N'
 exact codeAny_compStart_list (loop _ rfl) (hW.self 0 _ _ _ hst₁ (loop _ rfl))
theorem gen_go {σ : Type} {elt target iter : Expr} {ifs : List Expr} {more : List Comprehension} {scope : Scope} {cl : List (Str × Addr)} {pos p : Pos} {rest : Value → Env → Sem Unit} {Q : Value → Shared → Prop} {I : Addr} {n : Nat} {W : Nat → Value → Prop} {fp : List Addr} {St : Nat → Heap → Prop} {m : Str → Option Value}
  (upd : Nat → Value → (Str → Option Value) → Str → Option Value)
  (items : σ → List Value) (nn : σ → Nat) (Own : σ → List (Addr × Obj)) (tail : List (Addr × Obj)) (P : Nat → σ → Prop) (c₀ : σ)
  (hT : ∀ acc cenv, compTurn (.ListComp elt (⟨target, iter, ifs, 0⟩ :: more) scope pos) 0 (.ref I) acc cenv = (standAt p >>= fun _ => pyNext (.ref I) >>= fun r => match r with
   | none => pure (.done .next)
   | some v => letOwnedTupleGo target (.ref I) v >>= fun _ => assign target cenv v >>= fun _ => rest acc cenv >>= fun _ => again (.compLoop (.ListComp elt (⟨target, iter, ifs, 0⟩ :: more) scope pos) 0 (.ref I) acc cenv)))
  (hW : Walks prog w A I fp [I] n W St) (hit : ∀ i h, St i h → ∃ o, h.get? I = some o ∧ isIter o = true)
  (hfp : ∀ b ∈ fp, b = I ∨ (∃ o, h₀.get? b = some o) ∨ ∃ o, ∀ c : σ, (b, o) ∈ Own c ++ tail) (hfs : ∀ b ∈ fp, b < s.heap.objs.size) (hIs : I < s.heap.objs.size)
  (hI0 : h₀.get? I = none) (hIL : I ≠ L) (hoff : ∀ p ∈ Own c₀ ++ tail, p.1 ≠ I) (hst : St 0 s.heap)
  (hcell : ∀ y ∈ scope.names, y.2 ≠ .cell) (hkind : scope.kind = .function)
  (hc1 : items c₀ = []) (hc2 : nn c₀ = 0)
  (F : Fr h₀ L s.heap m) (N : News h₀ L s.heap (Own c₀ ++ tail)) (hP : P 0 c₀)
  (store : ∀ (C : Addr) (c : σ) i v (s₁ : Shared) mC (Q : Unit → Shared → Prop) (E : Value → Shared → Prop), i < n → W i v → St (i + 1) s₁.heap → P i c → s₁.heap.Ns C mC → (∀ p ∈ Own c ++ tail, s₁.heap.get? p.1 = some p.2) →
   (∀ h₂ tk₂, h₂.Ns C (upd i v mC) → (∀ b o, b ≠ C → s₁.heap.get? b = some o → h₂.get? b = some o) → Q () { s₁ with heap := h₂, toks := tk₂ }) →
   wpAny (model prog w) A (letOwnedTupleGo target (.ref I) v) (fun _ s₁ => wpAny (model prog w) A (assign target (compEnvC scope cl C env) v) Q E s₁) E s₁)
  (turn : ∀ (D C : Addr) (c : σ) i v h tk oI oC (mC : Str → Option Value), D < C → (∀ p ∈ (I, oI) :: tail, p.1 < D) → i < n → W i v → isIter oI = true → P i c → NsO oC (upd i v mC) → Fr h₀ L h m → News h₀ L h ((D, listOf (items c).toArray (nn c)) :: (Own c ++ ((C, oC) :: (I, oI) :: tail))) →
   wpAny (model prog w) A (rest (.ref D) (compEnvC scope cl C env)) (fun _ s₄ => CpEnd h₀ L C I oI (fun c => (D, listOf (items c).toArray (nn c)) :: Own c) tail m P (i + 1) { s with heap := h, toks := tk } s₄) (fun _ _ => False) { s with heap := h, toks := tk })
  (done : ∀ (D : Addr) (c : σ) h tk, P n c → Fr h₀ L h m → News h₀ L h ((D, listOf (items c).toArray (nn c)) :: (Own c ++ tail)) → Q (.ref D) { s with heap := h, toks := tk }) :
  GenGo prog w A env elt (⟨target, iter, ifs, 0⟩ :: more) scope cl pos Q E (.ref I) s := by
 refine gen_goG (Z := fun acc C => compPost (model prog w) A E none Q acc C) upd items nn Own tail P c₀ hT hW hit hfp hfs hIs hI0 hIL hoff hst hcell hkind hc1 hc2 F N hP store turn fun D C c h tk oC mC hPn hN hne hCL hC0 F' N' => ?_
 refine ⟨mC, hN.ns (N' (C, oC) (List.mem_append.mpr (.inr (List.mem_cons_self ..)))).1, fun h' hs' => done _ c h' tk hPn (sameBut_fr F' hs' (fun q => hCL q.symm) hC0) fun p hp => ?_⟩
 have q := N' p (go_mem hp)
 exact ⟨(hs'.2 p.1 (hne p hp)).trans q.1, q.2⟩
end
end Mine
end
section
namespace Mine
noncomputable def restE (elt : Expr) (acc : Value) (env : Env) : Sem Unit := eval elt env >>= fun x => call (.builtin "list.append") [acc, x] >>= fun _ => pure ()
noncomputable def restT (t elt : Expr) (acc : Value) (env : Env) : Sem Unit := (forIn [t] true fun c r => if r = true then do let ok ← isTrue c env (eval c env); pure (ForInStep.yield ok) else pure (ForInStep.yield r)) >>= fun ok => if ok = true then restE elt acc env else pure ()
noncomputable def restN (e iter : Expr) (acc : Value) (env : Env) : Sem Unit := eval iter env >>= fun x => standAt iter.pos >>= fun _ => foldedSetIterable iter env x >>= fun x => holding [x] (pyIter x) >>= fun it => runOwn (.compStart e 1 it acc env) env >>= fun _ => pure ()
theorem hT1 (elt target iter : Expr) (scope : Scope) (pos : Pos) (it acc : Value) (env : Env) :
  compTurn (.ListComp elt [⟨target, iter, [], 0⟩] scope pos) 0 it acc env = (standAt iter.pos >>= fun _ => pyNext it >>= fun r => match r with
   | none => pure (.done .next)
   | some v => letOwnedTupleGo target it v >>= fun _ => assign target env v >>= fun _ => restE elt acc env >>= fun _ => again (.compLoop (.ListComp elt [⟨target, iter, [], 0⟩] scope pos) 0 it acc env)) := by rfl
theorem hT2 (elt target iter target2 iter2 : Expr) (scope : Scope) (pos : Pos) (it acc : Value) (env : Env) :
  compTurn (.ListComp elt [⟨target, iter, [], 0⟩, ⟨target2, iter2, [], 0⟩] scope pos) 0 it acc env = (standAt iter.pos >>= fun _ => pyNext it >>= fun r => match r with
   | none => pure (.done .next)
   | some v => letOwnedTupleGo target it v >>= fun _ => assign target env v >>= fun _ => restN (.ListComp elt [⟨target, iter, [], 0⟩, ⟨target2, iter2, [], 0⟩] scope pos) iter2 acc env >>= fun _ => again (.compLoop (.ListComp elt [⟨target, iter, [], 0⟩, ⟨target2, iter2, [], 0⟩] scope pos) 0 it acc env)) := by
 unfold compTurn restN
 dsimp only
 simp only [bne_self_eq_false, Bool.false_eq_true, if_false, List.getElem?_cons_zero, List.forIn_nil, pure_bind, List.getElem?_cons_succ, if_true, bind_assoc]
 rfl
theorem hT2' (elt target iter target2 iter2 : Expr) (scope : Scope) (pos : Pos) (it acc : Value) (env : Env) :
  compTurn (.ListComp elt [⟨target, iter, [], 0⟩, ⟨target2, iter2, [], 0⟩] scope pos) 1 it acc env = (standAt iter2.pos >>= fun _ => pyNext it >>= fun r => match r with
   | none => pure (.done .next)
   | some v => letOwnedTupleGo target2 it v >>= fun _ => assign target2 env v >>= fun _ => restE elt acc env >>= fun _ => again (.compLoop (.ListComp elt [⟨target, iter, [], 0⟩, ⟨target2, iter2, [], 0⟩] scope pos) 1 it acc env)) := by rfl
section
variable {prog : Program} {w : World} {A : Around} {E : Value → Shared → Prop} {s : Shared} {Q : Unit → Shared → Prop} {env : Env} {acc : Value}
theorem rest_E {elt : Expr} (h : wpAny (model prog w) A (eval elt env) (fun y s₃ => wpAny (model prog w) A (call (.builtin "list.append") [acc, y]) (fun _ s₄ => Q () s₄) E s₃) E s) :
  wpAny (model prog w) A (restE elt acc env) Q E s :=
 wpAny_bind (wpAny_mono h (fun _ _ h => wpAny_bind (wpAny_mono h (fun _ _ h => wpAny_pure h) fun _ _ e => e)) fun _ _ e => e)
theorem rest_T {t elt : Expr} (h : wpAny (model prog w) A (isTrue t env (eval t env)) (fun b s₁ => if b = true then wpAny (model prog w) A (restE elt acc env) Q E s₁ else Q () s₁) E s) :
  wpAny (model prog w) A (restT t elt acc env) Q E s := by
 unfold restT
 refine wpAny_bind (wpAny_tests_one (wpAny_mono h (fun b s₁ h => ?_) fun _ _ e => e))
 cases b
 ·exact wpAny_pure h
 ·exact h
end
section
variable {prog : Program} {w : World} {A : Around} {E : Value → Shared → Prop} {s : Shared} {Q : Unit → Shared → Prop} {env : Env} {acc : Value} {R : Result → Shared → Prop}
theorem start_1 {elt : Expr} {g g2 : Comprehension} {target2 iter2 : Expr} {ifs2 : List Expr} {scope : Scope} {pos : Pos} {it : Value} (hg : g2 = ⟨target2, iter2, ifs2, 0⟩)
  (h0 : codeAny (model prog w) A (.compLoop (.ListComp elt [g, g2] scope pos) 1 it acc env) R s)
  (h : wpAny (model prog w) A (pyIter it) (fun it' s' => codeAny (model prog w) A (.compLoop (.ListComp elt [g, g2] scope pos) 1 it' acc env) R s')
   (notedBy (model prog w) A env fun x s' => R (.error x) s') s) :
  codeAny (model prog w) A (.compStart (.ListComp elt [g, g2] scope pos) 1 it acc env) R s := by
 subst hg
 refine codeAny_of_tree ?_
 show wpAny _ _ ((compStart (.ListComp elt [g, ⟨target2, iter2, ifs2, 0⟩] scope pos) 1 it acc env).onRaise (fun x => do noteFrame x env; standAt theWindowsPlace)) _ _ s
 refine wpAny_notedAt ?_
 unfold compStart
 show wpAny _ _ (ask >>= _) _ _ s
 refine wpAny_bind (wpAny_askSetting (wpAny_ite ?_))
 split
 ·first
   | exact wpAny_bind (wpAny_pure (wpAny_pure (And.intro rfl h0)))
   | exact wpAny_pure (And.intro rfl h0)
 ·first
   | exact wpAny_bind (wpAny_rule (wpAny_bind (wpAny_standAt (wpAny_bind (wpAny_mono h (fun it' s' h' => wpAny_pure (And.intro rfl h')) fun _ _ x => x)))))
   | (refine wpAny_bind (wpAny_rule ?_); show wpAny _ _ (standAt iter2.pos >>= _) _ _ s; exact wpAny_bind (wpAny_standAt (wpAny_bind (wpAny_mono h (fun it' s' h' => wpAny_pure (And.intro rfl h')) fun _ _ x => x))))
theorem rest_N {elt : Expr} {g g2 : Comprehension} {target2 iter2 iter : Expr} {ifs2 : List Expr} {scope : Scope} {pos : Pos} (hg : g2 = ⟨target2, iter2, ifs2, 0⟩)
  (hs : ∀ x, foldedSetIterable iter env x = pure x)
  (h : wpAny (model prog w) A (eval iter env) (fun xv s₁ => wpAny (model prog w) A (pyIter xv) (fun it s₂ =>
    codeAny (model prog w) A (.compLoop (.ListComp elt [g, g2] scope pos) 1 it acc env) (fun r s' => match r with | .ok _ => Q () s' | .error _ => False) s₂ ∧
    wpAny (model prog w) A (pyIter it) (fun it' s' => codeAny (model prog w) A (.compLoop (.ListComp elt [g, g2] scope pos) 1 it' acc env) (fun r s' => match r with | .ok _ => Q () s' | .error _ => False) s') (fun _ _ => False) s₂) E s₁) E s) :
  wpAny (model prog w) A (restN (.ListComp elt [g, g2] scope pos) iter acc env) Q E s := by
 unfold restN
 refine wpAny_bind (wpAny_mono h (fun xv s₁ h₁ => wpAny_bind (wpAny_standAt (wpAny_bind (wpAny_of_eq (hs xv) (wpAny_bind (wpAny_holding (wpAny_mono h₁ (fun it s₂ h₂ => ?_) fun _ _ e => e))))))) fun _ _ e => e)
 refine wpAny_bind (wpAny_runOwn ?_)
 rw [Around.mark_none]
 have mono : ∀ {c : Code} {s' : Shared}, codeAny (model prog w) A c (fun r s' => match r with | .ok _ => Q () s' | .error _ => False) s' → codeAny (model prog w) A c (fun r s' => match r with | .ok f => (fun _ s' => wpAny (model prog w) A (pure ()) Q E s') f s' | .error e => cameBackBy (model prog w) A env E e s') s' := fun h => codeAny_mono h fun r s' hr => by
  cases r with
  | ok f => exact wpAny_pure hr
  | error e => exact hr.elim
 exact start_1 hg (mono h₂.1) (wpAny_mono h₂.2 (fun it' s' h' => mono h') fun _ _ f => f.elim)
end
end Mine
end
section
namespace Mine
section
variable {prog : Program} {w : World} {A : Around} {E : Value → Shared → Prop} {s : Shared} {Q : Unit → Shared → Prop} {env : Env} {it : Value} {m : Str → Option Value}
noncomputable def updN (x : Str) (v : Value) (m : Str → Option Value) : Str → Option Value := fun y => if y = x then some v else m y
theorem store_name {x : Str} {px : Pos} {v : Value} (hx : env.kindOf x = some .local) (hp : (env.scope.kind == .class || (env.scope.kind == .module && env.locals != env.globals)) = false) (hn : s.heap.Ns env.locals m)
  (h : ∀ h₂ tk₂, h₂.Ns env.locals (updN x v m) → (∀ b o, b ≠ env.locals → s.heap.get? b = some o → h₂.get? b = some o) → Q () { s with heap := h₂, toks := tk₂ }) :
  wpAny (model prog w) A (letOwnedTupleGo (.Name x px) it v) (fun _ s₁ => wpAny (model prog w) A (assign (.Name x px) env v) Q E s₁) E s := by
 refine wpAny_of_eq (show letOwnedTupleGo (.Name x px) it v = pure () from rfl) ?_
 exact wpAny_assign_Name (wpAny_storeName_local hx hn (fun h₂ hn₂ hs₂ => h h₂ _ hn₂ fun b o hb e => (hs₂.2 b hb).trans e) hp)
theorem store_tup3 {a b c : Str} {pa pb pc tp : Pos} {kk : Nat} {I l T : Addr} {i : Nat} {x y z : Value} (hh : A.handled = none) (hI : s.heap.IsListIter I l i) (ht : s.heap.IsTuple T #[x, y, z])
  (ha : env.kindOf a = some .local) (hb : env.kindOf b = some .local) (hc : env.kindOf c = some .local) (hp : (env.scope.kind == .class || (env.scope.kind == .module && env.locals != env.globals)) = false) (hn : s.heap.Ns env.locals m)
  (h : ∀ h₂ tk₂, h₂.Ns env.locals (updN c z (updN b y (updN a x m))) → (∀ b o, b ≠ env.locals → s.heap.get? b = some o → h₂.get? b = some o) → Q () { s with heap := h₂, toks := tk₂ }) :
  wpAny (model prog w) A (letOwnedTupleGo (.Tuple [.Name a pa, .Name b pb, .Name c pc] kk tp) (.ref I) (.ref T)) (fun _ s₁ => wpAny (model prog w) A (assign (.Tuple [.Name a pa, .Name b pb, .Name c pc] kk tp) env (.ref T)) Q E s₁) E s := by
 refine wpAny_letOwnedTupleGo_listiter hI ?_
 refine wpAny_assign_Tuple hh ht rfl rfl fun h₁ he₁ => ?_
 have hL : env.locals ≠ s.heap.objs.size := Nat.ne_of_lt hn.lt
 have hn₁ : h₁.Ns env.locals m := hn.at' fun o e => he₁ _ o hL e
 have up₁ : ∀ c o, s.heap.get? c = some o → h₁.get? c = some o := fun c o e => he₁ c o (Nat.ne_of_lt (Heap.lt_size e)) e
 show wpAny _ _ (assignInOrder [assign (.Name a pa) env, assign (.Name b pb) env, assign (.Name c pc) env] [x, y, z]) _ _ _
 refine assignInOrder_cons ?_
 refine wpAny_assign_Name (wpAny_storeName_local ha hn₁ (fun h₂ hn₂ hs₂ => ?_) hp)
 refine assignInOrder_cons ?_
 refine wpAny_assign_Name (wpAny_storeName_local hb hn₂ (fun h₃ hn₃ hs₃ => ?_) hp)
 refine assignInOrder_cons ?_
 refine wpAny_assign_Name (wpAny_storeName_local hc hn₃ (fun h₄ hn₄ hs₄ => ?_) hp)
 refine assignInOrder_nil ?_
 exact h h₄ _ hn₄ fun c o hc e => (hs₄.2 c hc).trans ((hs₃.2 c hc).trans ((hs₂.2 c hc).trans (up₁ c o e)))
end
end Mine
namespace Mine
theorem iter_ne2 {h₀ h : Heap} {L a b : Addr} {oa ob : Obj} {l : List (Addr × Obj)} (N : News h₀ L h l) (ha : (a, oa) ∈ l) (hb : (b, ob) ∈ l) (h1 : isIter oa = true) (h2 : isIter ob = false) : a ≠ b := by
 intro e
 have x := (N _ ha).1
 have y := (N _ hb).1
 subst e
 dsimp only at x y
 rw [x] at y
 cases y
 rw [h1] at h2; cases h2
theorem own_off {h₀ h : Heap} {L C : Addr} {oC : Obj} {mC : Str → Option Value} {own l : List (Addr × Obj)} (N : News h₀ L h l) (hC : NsO oC mC) (hm : (C, oC) ∈ l) (ho : ∀ p ∈ own, okOwn p.2 = true) (hl : ∀ p ∈ own, p ∈ l) : C ∉ own.map (·.1) := fun q => by
 obtain ⟨p, hp1, e⟩ := List.mem_map.mp q
 have e1 := (N p (hl p hp1)).1
 have e2 := (N _ hm).1
 rw [e] at e1
 rw [show (C, oC).1 = C from rfl, e1] at e2
 have e3 : p.2 = oC := Option.some.inj e2
 exact okOwn_ns (ho p hp1) (e3 ▸ hC)
theorem name_1 {h₀ h : Heap} {L a : Addr} {o : Obj} {l : List (Addr × Obj)} (_ : News h₀ L h ((a, o) :: l)) : ∃ a', a' = a := ⟨_, rfl⟩
theorem name_2 {h₀ h : Heap} {L a : Addr} {o : Obj} {p : Addr × Obj} {l : List (Addr × Obj)} (_ : News h₀ L h (p :: (a, o) :: l)) : ∃ a', a' = a := ⟨_, rfl⟩
theorem name_3 {h₀ h : Heap} {L a : Addr} {o : Obj} {p q : Addr × Obj} {l : List (Addr × Obj)} (_ : News h₀ L h (p :: q :: (a, o) :: l)) : ∃ a', a' = a := ⟨_, rfl⟩
theorem name_4 {h₀ h : Heap} {L a : Addr} {o : Obj} {p q r : Addr × Obj} {l : List (Addr × Obj)} (_ : News h₀ L h (p :: q :: r :: (a, o) :: l)) : ∃ a', a' = a := ⟨_, rfl⟩
theorem nameo_5 {h₀ h : Heap} {L a : Addr} {o : Obj} {p q r x : Addr × Obj} {l : List (Addr × Obj)} (_ : News h₀ L h (p :: q :: r :: x :: (a, o) :: l)) : ∃ o', o' = o := ⟨_, rfl⟩
theorem news_re {h₀ h : Heap} {L : Addr} {l l' : List (Addr × Obj)} (N : News h₀ L h l) (e : ∀ p ∈ l', p ∈ l) : News h₀ L h l' := fun p hp => N p (e p hp)
end Mine
end
section
namespace Mine
section
variable {prog : Program} {w : World} {A : Around} {E : Value → Shared → Prop} {s : Shared} {env : Env} {h₀ : Heap} {L : Addr}
theorem gen_list1 {σ : Type} {elt iter : Expr} {ifs : List Expr} {more : List Comprehension} {x : Str} {px : Pos} {scope : Scope} {cl : List (Str × Addr)} {pos p : Pos} {rest : Value → Env → Sem Unit} {Q : Value → Shared → Prop} {l : Addr} {its : Array Value} {nl : Nat} {tail : List (Addr × Obj)} {m : Str → Option Value}
  (items : σ → List Value) (nn : σ → Nat) (Own : σ → List (Addr × Obj)) (P : Nat → σ → Prop) (c₀ : σ)
  (hT : ∀ it acc cenv, compTurn (.ListComp elt (⟨.Name x px, iter, ifs, 0⟩ :: more) scope pos) 0 it acc cenv = (standAt p >>= fun _ => pyNext it >>= fun r => match r with
   | none => pure (.done .next)
   | some v => letOwnedTupleGo (.Name x px) it v >>= fun _ => assign (.Name x px) cenv v >>= fun _ => rest acc cenv >>= fun _ => again (.compLoop (.ListComp elt (⟨.Name x px, iter, ifs, 0⟩ :: more) scope pos) 0 it acc cenv)))
  (F : Fr h₀ L s.heap m) (N : News h₀ L s.heap (Own c₀ ++ ((l, listOf its nl) :: tail))) (hh : A.handled = none) (hc1 : items c₀ = []) (hc2 : nn c₀ = 0) (hP : P 0 c₀)
  (hcell : ∀ y ∈ scope.names, y.2 ≠ .cell) (hkind : scope.kind = .function) (hx : scope.names.lookup x = some .local)
  (turn : ∀ (D C I : Addr) (c : σ) i v h tk oI oC (mC : Str → Option Value), D < C → (∀ p ∈ (I, oI) :: (l, listOf its nl) :: tail, p.1 < D) → its[i]? = some v → isIter oI = true → P i c → NsO oC (fun y => if y = x then some v else mC y) → Fr h₀ L h m → News h₀ L h ((D, listOf (items c).toArray (nn c)) :: (Own c ++ ((C, oC) :: (I, oI) :: (l, listOf its nl) :: tail))) →
   wpAny (model prog w) A (rest (.ref D) (compEnvC scope cl C env)) (fun _ s₄ => CpEnd h₀ L C I oI (fun c => (D, listOf (items c).toArray (nn c)) :: Own c) ((l, listOf its nl) :: tail) m P (i + 1) { s with heap := h, toks := tk } s₄) (fun _ _ => False) { s with heap := h, toks := tk })
  (done : ∀ (D : Addr) (c : σ) h tk, P its.size c → Fr h₀ L h m → News h₀ L h ((D, listOf (items c).toArray (nn c)) :: (Own c ++ ((l, listOf its nl) :: tail))) → Q (.ref D) { s with heap := h, toks := tk }) :
  wpAny (model prog w) A (pyIter (.ref l)) (fun it s₂ => GenGo prog w A env elt (⟨.Name x px, iter, ifs, 0⟩ :: more) scope cl pos Q E it s₂) E s := by
 have hlm : (l, listOf its nl) ∈ Own c₀ ++ ((l, listOf its nl) :: tail) := List.mem_append.mpr (.inr (List.mem_cons_self ..))
 have hol : s.heap.get? l = some (listOf its nl) := (N _ hlm).1
 have hls : s.heap.IsList l its := ⟨_, hol, rfl, nl, rfl⟩
 have hne : l ≠ s.heap.objs.size := Nat.ne_of_lt (Heap.lt_size hol)
 refine wpAny_pyIter_list hls ?_
 have W := Walks.list (prog := prog) (w := w) hh s.heap.objs.size l hne its
 refine gen_go (s := { s with heap := s.heap.push { cls := .type "list_iterator", data := .fields #[.ref l, .int 0 0] } }) (fun _ v mC => updN x v mC) items nn Own _ P c₀ (hT _) W (fun i h st => ?_) ?_ ?_ ?_ (next_is_new F) (fun e => absurd F.ns.lt (e ▸ Nat.lt_irrefl _)) (fun p hp e => absurd (Heap.lt_size (N p hp).1) (by rw [e]; exact Nat.lt_irrefl _)) ⟨⟨_, Heap.get?_push_size _ rfl, rfl, rfl⟩, hls.at fun o e => Heap.get?_push_of_some _ e⟩ hcell hkind hc1 hc2
  (F.push _) (fun p hp => ⟨Heap.get?_push_of_some _ (N p hp).1, (N p hp).2⟩) hP ?_ ?_ done
 ·(refine Mine.foldG ?_; intro gk138; (first | refine Mine.exE st ?_ | refine Mine.anE st ?_); intro zo134 zo135; clear st; (first | refine Mine.exE zo134 ?_ | refine Mine.anE zo134 ?_); intro o zo136; clear zo134; (first | refine Mine.exE zo136 ?_ | refine Mine.anE zo136 ?_); intro ho zo137; clear zo136; (first | refine Mine.exE zo137 ?_ | refine Mine.anE zo137 ?_); intro hc hd; clear zo137; unfold gk138; clear gk138)
  exact ⟨o, ho, iter_of hc hd (by decide) rfl (fun _ _ h => nomatch h)⟩
 ·intro b hb
  rcases List.mem_cons.mp hb with rfl | hb
  ·exact .inl rfl
  ·rw [List.mem_singleton.mp hb]; exact .inr (.inr ⟨_, fun c => List.mem_append.mpr (.inr (List.mem_cons_self ..))⟩)
 ·intro b hb
  show b < (s.heap.push _).objs.size
  rw [Heap.size_push]
  rcases List.mem_cons.mp hb with rfl | hb
  ·exact Nat.lt_succ_self _
  ·rw [List.mem_singleton.mp hb]; exact Nat.lt_succ_of_lt (Heap.lt_size hol)
 ·show s.heap.objs.size < (s.heap.push _).objs.size
  rw [Heap.size_push]; exact Nat.lt_succ_self _
 ·intro C c i v s₁ mC Q' E' _ _ _ _ hn _ hQ
  exact store_name (lookup_relabel_local hx) (by simp [compEnvC, relabel, hkind]) hn hQ
 ·intro D C c i v h tk oI oC mC hDC hDl hi hv ho hc hN F' N'
  exact turn D C _ c i v h tk oI oC mC hDC hDl hv ho hc hN F' N'
theorem gen_range {σ : Type} {elt iter : Expr} {ifs : List Expr} {more : List Comprehension} {x : Str} {px : Pos} {scope : Scope} {cl : List (Str × Addr)} {pos p : Pos} {rest : Value → Env → Sem Unit} {Q : Value → Shared → Prop} {r : Addr} {n : Nat} {t₀ u₀ v₀ : Tok} {m : Str → Option Value}
  (items : σ → List Value) (nn : σ → Nat) (Own : σ → List (Addr × Obj)) (tail : List (Addr × Obj)) (P : Nat → σ → Prop) (c₀ : σ)
  (hT : ∀ it acc cenv, compTurn (.ListComp elt (⟨.Name x px, iter, ifs, 0⟩ :: more) scope pos) 0 it acc cenv = (standAt p >>= fun _ => pyNext it >>= fun r => match r with
   | none => pure (.done .next)
   | some v => letOwnedTupleGo (.Name x px) it v >>= fun _ => assign (.Name x px) cenv v >>= fun _ => rest acc cenv >>= fun _ => again (.compLoop (.ListComp elt (⟨.Name x px, iter, ifs, 0⟩ :: more) scope pos) 0 it acc cenv)))
  (F : Fr h₀ L s.heap m) (N : News h₀ L s.heap (Own c₀ ++ tail)) (hr : IsRange s.heap r 0 (n : Int) 1 t₀ u₀ v₀) (hn : n ≤ 1000000) (hh : A.handled = none) (hc1 : items c₀ = []) (hc2 : nn c₀ = 0) (hP : P 0 c₀)
  (hcell : ∀ y ∈ scope.names, y.2 ≠ .cell) (hkind : scope.kind = .function) (hx : scope.names.lookup x = some .local)
  (turn : ∀ (D C I : Addr) (c : σ) (i : Nat) (ti : Tok) h tk oI oC (mC : Str → Option Value), D < C → (∀ p ∈ (I, oI) :: tail, p.1 < D) → i < n → isIter oI = true → P i c → NsO oC (fun y => if y = x then some (.int (i : Int) ti) else mC y) → Fr h₀ L h m → News h₀ L h ((D, listOf (items c).toArray (nn c)) :: (Own c ++ ((C, oC) :: (I, oI) :: tail))) →
   wpAny (model prog w) A (rest (.ref D) (compEnvC scope cl C env)) (fun _ s₄ => CpEnd h₀ L C I oI (fun c => (D, listOf (items c).toArray (nn c)) :: Own c) tail m P (i + 1) { s with heap := h, toks := tk } s₄) (fun _ _ => False) { s with heap := h, toks := tk })
  (done : ∀ (D : Addr) (c : σ) h tk, P n c → Fr h₀ L h m → News h₀ L h ((D, listOf (items c).toArray (nn c)) :: (Own c ++ tail)) → Q (.ref D) { s with heap := h, toks := tk }) :
  wpAny (model prog w) A (pyIter (.ref r)) (fun it s₂ => GenGo prog w A env elt (⟨.Name x px, iter, ifs, 0⟩ :: more) scope cl pos Q E it s₂) E s := by
 refine wpAny_pyIter_range hr (rsmall hn) ?_
 refine gen_go (s := { s with heap := s.heap.push { cls := .type "range_iterator", data := .fields #[rawInt 0, rawInt (Builtin.Range.rangeSize 0 (n : Int) 1), rawInt 1] } }) (fun _ v mC => updN x v mC) items nn Own tail P c₀ (hT _) (Walks.range hh s.heap.objs.size 0 1 n) (fun i h st => range_iterC st) (fun b hb => .inl (List.mem_singleton.mp hb)) ?_ ?_ (next_is_new F) (fun e => absurd F.ns.lt (e ▸ Nat.lt_irrefl _)) (fun p hp e => absurd (Heap.lt_size (N p hp).1) (by rw [e]; exact Nat.lt_irrefl _)) (by show IsRangeIter _ _ _ _ _; rw [rsize]; simpa using Heap.get?_push_size _ rfl) hcell hkind hc1 hc2
  (F.push _) (fun p hp => ⟨Heap.get?_push_of_some _ (N p hp).1, (N p hp).2⟩) hP ?_ ?_ done
 ·intro b hb
  show b < (s.heap.push _).objs.size
  rw [Heap.size_push, List.mem_singleton.mp hb]; exact Nat.lt_succ_self _
 ·show s.heap.objs.size < (s.heap.push _).objs.size
  rw [Heap.size_push]; exact Nat.lt_succ_self _
 ·intro C c i v s₁ mC Q' E' _ _ _ _ hn _ hQ
  exact store_name (lookup_relabel_local hx) (by simp [compEnvC, relabel, hkind]) hn hQ
 ·rintro D C c i v h tk oI oC mC hDC hDl hi ⟨t, rfl⟩ ho hc hN F' N'
  have e : (0 : Int) + (i : Int) * 1 = (i : Int) := by omega
  rw [e] at hN
  exact turn D C _ c i t h tk oI oC mC hDC hDl hi ho hc hN F' N'
theorem inner_range {σ : Type} {elt : Expr} {gens : List Comprehension} {x : Str} {px p : Pos} {scope scope' : Scope} {cl : List (Str × Addr)} {pos : Pos} {d : Nat} {rest : Sem Unit} {acc : Value} {C : Addr} {r : Addr} {n : Nat} {t₀ u₀ v₀ : Tok} {m mC₀ : Str → Option Value} {oC₀ : Obj} {R : Result → Shared → Prop}
  (J : (Str → Option Value) → Prop) (Own : σ → List (Addr × Obj)) (tail : List (Addr × Obj)) (P : Nat → σ → Prop) (c₀ : σ)
  (hT : ∀ it, compTurn (.ListComp elt gens scope' pos) d it acc (compEnvC scope cl C env) = (standAt p >>= fun _ => pyNext it >>= fun r => match r with
   | none => pure (.done .next)
   | some v => letOwnedTupleGo (.Name x px) it v >>= fun _ => assign (.Name x px) (compEnvC scope cl C env) v >>= fun _ => rest >>= fun _ => again (.compLoop (.ListComp elt gens scope' pos) d it acc (compEnvC scope cl C env))))
  (F : Fr h₀ L s.heap m) (N : News h₀ L s.heap (Own c₀ ++ ((C, oC₀) :: tail))) (hC : NsO oC₀ mC₀) (hJ0 : J mC₀) (hJu : ∀ v mC, J mC → J (fun y => if y = x then some v else mC y)) (hCt : ∀ p ∈ tail, p.1 ≠ C) (hCo : C ∉ (Own c₀).map (·.1)) (hr : IsRange s.heap r 0 (n : Int) 1 t₀ u₀ v₀) (hn : n ≤ 1000000) (hh : A.handled = none) (hP : P 0 c₀)
  (hkind : scope.kind = .function) (hx : scope.names.lookup x = some .local)
  (turn : ∀ (I : Addr) (c : σ) (i : Nat) (ti : Tok) h tk oI oC (mC : Str → Option Value), i < n → isIter oI = true → P i c → NsO oC (fun y => if y = x then some (.int (i : Int) ti) else mC y) → J (fun y => if y = x then some (.int (i : Int) ti) else mC y) → Fr h₀ L h m → News h₀ L h (Own c ++ ((C, oC) :: (I, oI) :: tail)) →
   wpAny (model prog w) A rest (fun _ s₄ => CpEndJ J h₀ L C I oI Own tail m P (i + 1) { s with heap := h, toks := tk } s₄) (fun _ _ => False) { s with heap := h, toks := tk })
  (done : ∀ (c : σ) h tk oC (mC : Str → Option Value), P n c → NsO oC mC → J mC → Fr h₀ L h m → News h₀ L h (Own c ++ ((C, oC) :: tail)) → R (.ok .next) { s with heap := h, toks := tk }) :
  wpAny (model prog w) A (pyIter (.ref r)) (fun it s₂ => codeAny (model prog w) A (.compLoop (.ListComp elt gens scope' pos) d it acc (compEnvC scope cl C env)) R s₂ ∧
   wpAny (model prog w) A (pyIter it) (fun it' s' => codeAny (model prog w) A (.compLoop (.ListComp elt gens scope' pos) d it' acc (compEnvC scope cl C env)) R s') (fun _ _ => False) s₂) E s := by
 refine wpAny_pyIter_range hr (rsmall hn) ?_
 have hCm : (C, oC₀) ∈ Own c₀ ++ ((C, oC₀) :: tail) := List.mem_append.mpr (.inr (List.mem_cons_self ..))
 have hCI : C ≠ s.heap.objs.size := Nat.ne_of_lt (Heap.lt_size (N _ hCm).1)
 have W := Walks.range (prog := prog) (w := w) hh s.heap.objs.size 0 1 n
 have st0 : IsRangeIter (s.heap.push { cls := .type "range_iterator", data := .fields #[rawInt 0, rawInt (Builtin.Range.rangeSize 0 (n : Int) 1), rawInt 1] }) s.heap.objs.size (0 + ((0 : Nat) : Int) * 1) ((n : Int) - ((0 : Nat) : Int)) 1 := by rw [rsize]; simpa using Heap.get?_push_size _ rfl
 have loop : codeAny (model prog w) A (.compLoop (.ListComp elt gens scope' pos) d (.ref s.heap.objs.size) acc (compEnvC scope cl C env)) R { s with heap := s.heap.push { cls := .type "range_iterator", data := .fields #[rawInt 0, rawInt (Builtin.Range.rangeSize 0 (n : Int) 1), rawInt 1] } } := by
  refine gen_turns (cenv := compEnvC scope cl C env) (rest := rest) (fun _ v mC => updN x v mC) J hJ0 (fun _ v mC h => hJu v mC h) Own tail P c₀ (hT _) W (fun i h st => range_iterC st) (fun b hb => .inl (List.mem_singleton.mp hb)) (next_is_new F) (fun e => absurd F.ns.lt (e ▸ Nat.lt_irrefl _)) (N _ hCm).2.2 (N _ hCm).2.1 hCI (fun q => hCI (List.mem_singleton.mp q)) hCt hCo ?_ st0 ?_ (F.push _) (fun p hp => ⟨Heap.get?_push_of_some _ (N p hp).1, (N p hp).2⟩) hC hP ?_ ?_
  ·intro p hp e
   have hp' : p ∈ Own c₀ ++ ((C, oC₀) :: tail) := by
    rcases List.mem_append.mp hp with h | h
    ·exact List.mem_append.mpr (.inl h)
    ·exact List.mem_append.mpr (.inr (List.mem_cons_of_mem _ h))
   exact absurd (Heap.lt_size (N p hp').1) (by rw [e]; exact Nat.lt_irrefl _)
  ·intro c i v h₁ tk₁ mC Q' E' _ _ _ _ hn _ hQ
   exact store_name (lookup_relabel_local hx) (by simp [compEnvC, relabel, hkind]) hn hQ
  ·rintro c i v h tk oI oC mC hi ⟨t, rfl⟩ ho hc hN hJ F' N'
   have e : (0 : Int) + (i : Int) * 1 = (i : Int) := by omega
   rw [e] at hN hJ
   exact turn _ c i t h tk oI oC mC hi ho hc hN hJ F' N'
  ·intro c h tk oC mC hPn hN hJ _ F' N'
   exact done c h tk oC mC hPn hN hJ F' N'
 exact ⟨loop, W.self 0 _ _ _ st0 loop⟩
end
end Mine
end
section
namespace Mine
section
variable {prog : Program} {w : World} {A : Around} {s : Shared} {env : Env} {m : Str → Option Value}
theorem assign_tup3 {Q : Unit → Shared → Prop} {E : Value → Shared → Prop} {a b c : Str} {pa pb pc tp : Pos} {kk : Nat} {T : Addr} {x y z : Value} (hh : A.handled = none) (ht : s.heap.IsTuple T #[x, y, z])
  (ha : env.kindOf a = some .local) (hb : env.kindOf b = some .local) (hc : env.kindOf c = some .local) (hp : (env.scope.kind == .class || (env.scope.kind == .module && env.locals != env.globals)) = false) (hn : s.heap.Ns env.locals m)
  (h : ∀ h₂ tk₂, h₂.Ns env.locals (updN c z (updN b y (updN a x m))) → (∀ b o, b ≠ env.locals → s.heap.get? b = some o → h₂.get? b = some o) → Q () { s with heap := h₂, toks := tk₂ }) :
  wpAny (model prog w) A (assign (.Tuple [.Name a pa, .Name b pb, .Name c pc] kk tp) env (.ref T)) Q E s := by
 refine wpAny_assign_Tuple hh ht rfl rfl fun h₁ he₁ => ?_
 have hL : env.locals ≠ s.heap.objs.size := Nat.ne_of_lt hn.lt
 have hn₁ : h₁.Ns env.locals m := hn.at' fun o e => he₁ _ o hL e
 have up₁ : ∀ c o, s.heap.get? c = some o → h₁.get? c = some o := fun c o e => he₁ c o (Nat.ne_of_lt (Heap.lt_size e)) e
 show wpAny _ _ (assignInOrder [assign (.Name a pa) env, assign (.Name b pb) env, assign (.Name c pc) env] [x, y, z]) _ _ _
 refine assignInOrder_cons ?_
 refine wpAny_assign_Name (wpAny_storeName_local ha hn₁ (fun h₂ hn₂ hs₂ => ?_) hp)
 refine assignInOrder_cons ?_
 refine wpAny_assign_Name (wpAny_storeName_local hb hn₂ (fun h₃ hn₃ hs₃ => ?_) hp)
 refine assignInOrder_cons ?_
 refine wpAny_assign_Name (wpAny_storeName_local hc hn₃ (fun h₄ hn₄ hs₄ => ?_) hp)
 refine assignInOrder_nil ?_
 exact h h₄ _ hn₄ fun c o hc e => (hs₄.2 c hc).trans ((hs₃.2 c hc).trans ((hs₂.2 c hc).trans (up₁ c o e)))
end
section
variable {prog : Program} {w : World} {A : Around} {E : Value → Shared → Prop} {s : Shared} {env : Env} {h₀ : Heap} {body : List Stmt} {Q : Flow → Shared → Prop}
noncomputable def upd3 (a b c : Str) (x y z : Value) (m : Str → Option Value) : Str → Option Value := fun q => if q = c then some z else if q = b then some y else if q = a then some x else m q
theorem for_tup3 {σ : Type} {l : Addr} {vs : List Value} {nn : Nat} {m₀ : Str → Option Value} {a b c : Str} {pa pb pc tp : Pos} {kk : Nat} (Own : σ → List (Addr × Obj)) (tail : List (Addr × Obj)) (ps : σ → List (Str × Value)) (stored : List Str) (P : Nat → σ → Prop) (c₀ : σ)
  (hh : A.handled = none) (hl : (l, listOf vs.toArray nn) ∈ tail) (hits : ∀ (i : Nat) (v : Value), vs[i]? = some v → ∃ (T : Addr) (x y z : Value), v = .ref T ∧ (T, ({ cls := .type "tuple", data := .seq #[x, y, z] } : Obj)) ∈ tail)
  (ha : env.kindOf a = some .local) (hb : env.kindOf b = some .local) (hc : env.kindOf c = some .local) (hp9 : (env.scope.kind == .class || (env.scope.kind == .module && env.locals != env.globals)) = false)
  (hsa : stored.contains a = true) (hsb : stored.contains b = true) (hsc : stored.contains c = true) (hpn : ∀ c9, ∀ p ∈ ps c9, p.1 ≠ a ∧ p.1 ≠ b ∧ p.1 ≠ c)
  (F : Fr h₀ env.locals s.heap m₀) (N : News h₀ env.locals s.heap (Own c₀ ++ tail)) (hk : ∀ p ∈ ps c₀, m₀ p.1 = some p.2) (hp : P 0 c₀)
  (turn : ∀ (c9 : σ) (i : Nat) (T : Addr) (x y z : Value) (u : Str → Option Value) I h tk oI, vs[i]? = some (Value.ref T) → (T, ({ cls := .type "tuple", data := .seq #[x, y, z] } : Obj)) ∈ tail → isIter oI = true → P i c9 → Fr h₀ env.locals h (upd3 a b c x y z (kstB (fun q => if stored.contains q then u q else m₀ q) (ps c9))) → News h₀ env.locals h (Own c9 ++ ((I, oI) :: tail)) →
   wpAny (model prog w) A (execs body env) (LpPost h₀ env.locals I oI Own tail ps stored m₀ c P (i + 1) Q { s with heap := h, toks := tk }) E { s with heap := h, toks := tk })
  (done : ∀ (c9 : σ) (u : Str → Option Value) h tk, P vs.length c9 → Fr h₀ env.locals h (kstB (fun q => if stored.contains q then u q else m₀ q) (ps c9)) → News h₀ env.locals h (Own c9 ++ tail) → Q .next { s with heap := h, toks := tk }) :
  wpAny (model prog w) A (pyIter (.ref l)) (fun it s₂ => TurnsAt prog w A h₀ env (.Tuple [.Name a pa, .Name b pb, .Name c pc] kk tp) body Q E it s₂) E s := by
 have hlm : ∀ c9 : σ, (l, listOf vs.toArray nn) ∈ Own c9 ++ tail := fun c9 => List.mem_append.mpr (.inr hl)
 have hol : s.heap.get? l = some (listOf vs.toArray nn) := (N _ (hlm c₀)).1
 have hls : s.heap.IsList l vs.toArray := ⟨_, hol, rfl, nn, rfl⟩
 have hne : l ≠ s.heap.objs.size := Nat.ne_of_lt (Heap.lt_size hol)
 refine wpAny_pyIter_list hls ?_
 have W := Walks.list (prog := prog) (w := w) hh s.heap.objs.size l hne vs.toArray
 have hlen : vs.toArray.size = vs.length := by simp
 rw [hlen] at W
 have W2 : KTurns prog w A (.Tuple [.Name a pa, .Name b pb, .Name c pc] kk tp) s.heap.objs.size [s.heap.objs.size, l] [s.heap.objs.size] vs.length (fun i v _ => vs.toArray[i]? = some v) (fun i v h => vs.toArray[i]? = some v ∧ (h.IsListIter s.heap.objs.size l (i + 1) ∧ h.IsList l vs.toArray)) (fun i h => h.IsListIter s.heap.objs.size l i ∧ h.IsList l vs.toArray) :=
  {
   sub := W.sub
   frame := W.frame
   item := fun i s Q E hi st hQ => W.item i s Q E hi st fun v h' tk hP st' hk => hQ v h' tk ⟨hP, st'⟩ hk
   go := fun i v s' Q E hm hQ => by
    (refine Mine.foldG ?_; intro gk147; (first | refine Mine.exE (hits i v (by simpa using hm.1)) ?_ | refine Mine.anE (hits i v (by simpa using hm.1)) ?_); intro T zo141; (first | refine Mine.exE zo141 ?_ | refine Mine.anE zo141 ?_); intro x zo142; clear zo141; (first | refine Mine.exE zo142 ?_ | refine Mine.anE zo142 ?_); intro y zo143; clear zo142; (first | refine Mine.exE zo143 ?_ | refine Mine.anE zo143 ?_); intro z zo144; clear zo143; (first | refine Mine.exE zo144 ?_ | refine Mine.anE zo144 ?_); intro zo145 zo146; clear zo144; unfold gk147; clear gk147; subst zo145)
    exact wpAny_letOwnedTupleGo_listiter hm.2.1 (hQ s'.heap hm.1 hm.2 fun _ _ _ e => e)
   done := W.done }
 let J : Nat → (Str → Option Value) → List (Addr × Obj) → Prop := fun i m nx =>
  ∃ c9 : σ, nx = Own c9 ++ tail ∧ (∀ p ∈ ps c9, m p.1 = some p.2) ∧ (∀ z, z ≠ c → (∀ p ∈ ps c9, z ≠ p.1) → stored.contains z = false → m z = m₀ z) ∧ P i c9
 refine ⟨s.heap.objs.size, _, _, vs.length, _, _, _, m₀, Own c₀ ++ tail, J, rfl, W2, ?_, ?_, ?_, ⟨⟨_, Heap.get?_push_size _ rfl, rfl, rfl⟩, hls.at fun o e => Heap.get?_push_of_some _ e⟩, F.push _, fun p hp => ⟨Heap.get?_push_of_some _ (N p hp).1, (N p hp).2⟩, ⟨c₀, rfl, hk, fun _ _ _ _ => rfl, hp⟩, ?_, ?_⟩
 ·intro hm
  rcases List.mem_cons.mp hm with h | h
  ·exact absurd F.ns.lt (h ▸ Nat.lt_irrefl _)
  ·exact (N _ (hlm c₀)).2.1 (List.mem_singleton.mp h).symm
 ·intro b hb; rw [List.mem_singleton.mp hb]; exact next_is_new F
 ·intro p hp hb
  exact absurd (Heap.lt_size (N p hp).1) (by rw [List.mem_singleton.mp hb]; exact Nat.lt_irrefl _)
 ·rintro i v m₁ news₁ h₁ tk₁ own hin hP ⟨c9, rfl, g1, g2, hc9⟩ hoff hown hget hmem hst F₁ N₁
  (refine Mine.foldG ?_; intro gk152; (first | refine Mine.exE hst ?_ | refine Mine.anE hst ?_); intro zo148 zo149; clear hst; (first | refine Mine.exE zo148 ?_ | refine Mine.anE zo148 ?_); intro oI zo150; clear zo148; (first | refine Mine.exE zo150 ?_ | refine Mine.anE zo150 ?_); intro hoI zo151; clear zo150; (first | refine Mine.exE zo151 ?_ | refine Mine.anE zo151 ?_); intro hcI hdI; clear zo151; unfold gk152; clear gk152)
  have hisI : isIter oI = true := iter_of hcI hdI (by decide) rfl (fun _ _ h => nomatch h)
  have hIown : (s.heap.objs.size, oI) ∈ own := hmem _ (List.mem_cons_self ..) (next_is_new F) oI hoI
  have hv : vs[i]? = some v := by simpa using hP
  (refine Mine.foldG ?_; intro gk158; (first | refine Mine.exE (hits i v hv) ?_ | refine Mine.anE (hits i v hv) ?_); intro T zo153; (first | refine Mine.exE zo153 ?_ | refine Mine.anE zo153 ?_); intro x zo154; clear zo153; (first | refine Mine.exE zo154 ?_ | refine Mine.anE zo154 ?_); intro y zo155; clear zo154; (first | refine Mine.exE zo155 ?_ | refine Mine.anE zo155 ?_); intro z zo156; clear zo155; (first | refine Mine.exE zo156 ?_ | refine Mine.anE zo156 ?_); intro zo157 hT; clear zo156; unfold gk158; clear gk158; subst zo157)
  have hTt : h₁.IsTuple T #[x, y, z] := ⟨_, (N₁ _ (List.mem_append.mpr (.inr (List.mem_append.mpr (.inr hT))))).1, rfl, _, rfl⟩
  refine assign_tup3 hh hTt ha hb hc hp9 F₁.ns fun h₂ tk₂ hn₂ hs₂ => ?_
  have F₂ : Fr h₀ env.locals h₂ (upd3 a b c x y z m₁) := ⟨hn₂, fun b o e => hs₂ b o (fun q => absurd (Heap.lt_size e) (by rw [q]; exact Nat.not_lt.mpr F₁.above)) (F₁.keep b o e), F₁.above⟩
  have em : upd3 a b c x y z (kstB (fun q => if stored.contains q then upd3 a b c x y z m₁ q else m₀ q) (ps c9)) = upd3 a b c x y z m₁ := by
   funext q
   unfold upd3
   by_cases q3 : q = c
   ·rw [if_pos q3, if_pos q3]
   ·by_cases q2 : q = b
    ·rw [if_neg q3, if_pos q2, if_neg q3, if_pos q2]
    ·by_cases q1 : q = a
     ·rw [if_neg q3, if_neg q2, if_pos q1, if_neg q3, if_neg q2, if_pos q1]
     ·rw [if_neg q3, if_neg q2, if_neg q1, if_neg q3, if_neg q2, if_neg q1]
      refine kstB_eq g1 fun hn => ?_
      show (if stored.contains q = true then upd3 a b c x y z m₁ q else m₀ q) = m₁ q
      unfold upd3
      by_cases hs : stored.contains q = true
      ·rw [if_pos hs, if_neg q3, if_neg q2, if_neg q1]
      ·rw [if_neg hs]
       exact (g2 q q3 hn (by simpa using hs)).symm
  rw [← em] at F₂
  have N₂ : News h₀ env.locals h₂ (Own c9 ++ ((s.heap.objs.size, oI) :: tail)) := fun p hp => by
   have q := N₁ p (by
    rcases List.mem_append.mp hp with h | h
    ·exact List.mem_append.mpr (.inr (List.mem_append.mpr (.inl h)))
    ·rcases List.mem_cons.mp h with rfl | h
     ·exact List.mem_append.mpr (.inl hIown)
     ·exact List.mem_append.mpr (.inr (List.mem_append.mpr (.inr h))))
   exact ⟨hs₂ p.1 _ q.2.1 q.1, q.2⟩
  refine wpAny_mono (turn c9 i T x y z _ _ h₂ tk₂ oI hv hT hisI hc9 F₂ N₂) (fun f s₂ p => ?_) fun _ _ e => e
  have fin : LpEnd h₀ env.locals s.heap.objs.size oI Own tail ps stored m₀ c P (i + 1) { s with heap := h₂, toks := tk₂ } s₂ → LoopStepU h₀ env.locals [s.heap.objs.size] own (J (i + 1)) { s with heap := h₁, toks := tk₁ } .next s₂ := by
   intro zr139
   (refine Mine.foldG ?_; intro gk171; (first | refine Mine.exE zr139 ?_ | refine Mine.anE zr139 ?_); intro c' zo159; clear zr139; (first | refine Mine.exE zo159 ?_ | refine Mine.anE zo159 ?_); intro h' zo160; clear zo159; (first | refine Mine.exE zo160 ?_ | refine Mine.anE zo160 ?_); intro tk zo161; clear zo160; (first | refine Mine.exE zo161 ?_ | refine Mine.anE zo161 ?_); intro m' zo162; clear zo161; (first | refine Mine.exE zo162 ?_ | refine Mine.anE zo162 ?_); intro news' zo163; clear zo162; (first | refine Mine.exE zo163 ?_ | refine Mine.anE zo163 ?_); intro e zo164; clear zo163; (first | refine Mine.exE zo164 ?_ | refine Mine.anE zo164 ?_); intro F' zo165; clear zo164; (first | refine Mine.exE zo165 ?_ | refine Mine.anE zo165 ?_); intro N' zo166; clear zo165; (first | refine Mine.exE zo166 ?_ | refine Mine.anE zo166 ?_); intro hn zo167; clear zo166; (first | refine Mine.exE zo167 ?_ | refine Mine.anE zo167 ?_); intro hI' zo168; clear zo167; (first | refine Mine.exE zo168 ?_ | refine Mine.anE zo168 ?_); intro hnot zo169; clear zo168; (first | refine Mine.exE zo169 ?_ | refine Mine.anE zo169 ?_); intro k1 zo170; clear zo169; (first | refine Mine.exE zo170 ?_ | refine Mine.anE zo170 ?_); intro k2 hc'; clear zo170; unfold gk171; clear gk171)
   refine ⟨rfl, h', tk, m', Own c' ++ tail, e, F', fun p hp => ?_, fun p hp hq => ?_, ⟨c', rfl, k1, k2, hc'⟩⟩
   ·rcases List.mem_append.mp hp with h | h
    ·have hg := hget p h
     rcases List.mem_cons.mp (hown p h) with hb | hb
     ·have : p = (s.heap.objs.size, oI) := Prod.ext hb (by rw [hb, hoI] at hg; exact (Option.some.inj hg).symm)
      rw [this]; exact N' _ hI'
     ·have hb' : p.1 = l := List.mem_singleton.mp hb
      have h3 := (N₁ (l, listOf vs.toArray nn) (List.mem_append.mpr (.inr (List.mem_append.mpr (.inr hl))))).1
      have h4 : p = (l, listOf vs.toArray nn) := Prod.ext hb' (by rw [hb', h3] at hg; exact (Option.some.inj hg).symm)
      rw [h4]; exact N' _ (hn _ (List.mem_append.mpr (.inr hl)))
    ·exact N' p (hn p h)
   ·have hpI : p.1 = s.heap.objs.size := List.mem_singleton.mp hq
    rcases List.mem_append.mp hp with h | h
    ·have e1 := (N' _ (hn p hp)).1
     have e2 := (N' _ hI').1
     rw [hpI] at e1
     rw [e1] at e2
     have e3 : p.2 = oI := Option.some.inj e2
     have := hnot p h
     rw [e3, hisI] at this
     cases this
    ·exact absurd (Heap.lt_size (N p (List.mem_append.mpr (.inr h))).1) (by rw [hpI]; exact Nat.lt_irrefl _)
  cases f with
  | ret v => exact .ret p
  | brk => exact .brk p
  | next => exact .next (fin p)
  | cont => exact .cont (fin p)
 ·intro h' tk m' news' F' N' _ zr140
  (refine Mine.foldG ?_; intro gk176; (first | refine Mine.exE zr140 ?_ | refine Mine.anE zr140 ?_); intro c9 zo172; clear zr140; (first | refine Mine.exE zo172 ?_ | refine Mine.anE zo172 ?_); intro zo173 zo174; clear zo172; (first | refine Mine.exE zo174 ?_ | refine Mine.anE zo174 ?_); intro g1 zo175; clear zo174; (first | refine Mine.exE zo175 ?_ | refine Mine.anE zo175 ?_); intro g2 hc9; clear zo175; unfold gk176; clear gk176; subst zo173)
  have em : kstB (fun q => if stored.contains q then m' q else m₀ q) (ps c9) = m' := by
   funext q
   refine kstB_eq g1 fun hn => ?_
   show (if stored.contains q = true then m' q else m₀ q) = m' q
   by_cases hs : stored.contains q = true
   ·rw [if_pos hs]
   ·rw [if_neg hs]
    exact (g2 q (fun e => hs (e ▸ hsc)) hn (by simpa using hs)).symm
  refine done c9 m' h' tk hc9 ?_ N'
  rw [em]; exact F'
end
end Mine
end
section
namespace Mine
noncomputable def sharesTo (k i : Nat) : List (Nat × Nat × Nat) := (List.range i).flatMap fun a => (List.range (k - a)).map fun b => (a, b, k - 1 - a - b)
noncomputable def sharesL (k : Nat) : List (Nat × Nat × Nat) := sharesTo k k
noncomputable def sharesIn (k i j : Nat) : List (Nat × Nat × Nat) := sharesTo k i ++ (List.range j).map fun b => (i, b, k - 1 - i - b)
theorem sharesIn_zero (k i : Nat) : sharesIn k i 0 = sharesTo k i := by simp [sharesIn]
theorem sharesIn_succ (k i j : Nat) : sharesIn k i (j + 1) = sharesIn k i j ++ [(i, j, k - 1 - i - j)] := by simp [sharesIn, List.range_succ]
theorem sharesIn_all (k i : Nat) : sharesIn k i (k - i) = sharesTo k (i + 1) := by simp [sharesIn, sharesTo, List.range_succ]
theorem sharesTo_len (k : Nat) : ∀ i, (sharesTo k i).length ≤ i * k
 | 0 => by simp [sharesTo]
 | i + 1 => by
  have ih := sharesTo_len k i
  have e : sharesTo k (i + 1) = sharesIn k i (k - i) := (sharesIn_all k i).symm
  rw [e, Nat.succ_mul]; simp [sharesIn]; omega
theorem sharesIn_len {k i j : Nat} (hk : k ≤ 20) (hi : i < k) (hj : j ≤ k) : (sharesIn k i j).length ≤ 420 := by
 have h1 := sharesTo_len k i
 have h2 : i * k ≤ 20 * 20 := Nat.mul_le_mul (by omega) hk
 simp [sharesIn]; omega
noncomputable def cntX (c : List Nat) (k : Nat) : Nat := c.getD k 0 * 3 * (3 * k + 1) * (3 * k + 2)
noncomputable def cntY (k : Nat) : Nat := (2 * k + 2) * (2 * k + 3)
noncomputable def cnts : Nat → List Nat
 | 0 => [1]
 | k + 1 => cnts k ++ [if cntX (cnts k) k % cntY k = 0 then cntX (cnts k) k / cntY k else 0]
theorem cnts_5 : cnts 5 = [1, 1, 3, 12, 55, 273] := by decide +kernel
theorem cnts_len : ∀ k, (cnts k).length = k + 1
 | 0 => rfl
 | k + 1 => by simp [cnts, cnts_len k]
theorem cnts_small : ∀ i, i < 5 → cntX (cnts i) i < 2 ^ 40 := by decide +kernel
end Mine
end
section
namespace Mine
theorem hT1f (elt target iter t : Expr) (scope : Scope) (pos : Pos) (it acc : Value) (env : Env) :
  compTurn (.ListComp elt [⟨target, iter, [t], 0⟩] scope pos) 0 it acc env = (standAt iter.pos >>= fun _ => pyNext it >>= fun r => match r with
   | none => pure (.done .next)
   | some v => letOwnedTupleGo target it v >>= fun _ => assign target env v >>= fun _ => restT t elt acc env >>= fun _ => again (.compLoop (.ListComp elt [⟨target, iter, [t], 0⟩] scope pos) 0 it acc env)) := by
 unfold compTurn restT restE
 dsimp only
 simp only [bne_self_eq_false, Bool.false_eq_true, if_false, List.getElem?_cons_zero, List.getElem?_cons_succ, List.getElem?_nil, pure_bind, bind_assoc]
 refine bind_congr fun _ => bind_congr fun r => ?_
 cases r with
 | none => rfl
 | some v =>
  refine bind_congr fun _ => bind_congr fun _ => ?_
  simp only [List.forIn_cons, List.forIn_nil, pure_bind, bind_assoc, if_true]
  refine bind_congr fun ok => ?_
  cases ok
  ·simp
  ·simp
section
variable {prog : Program} {w : World} {A : Around} {E : Value → Shared → Prop} {s : Shared} {env : Env} {h₀ : Heap} {L : Addr}
theorem gen_tup3 {σ : Type} {elt iter : Expr} {ifs : List Expr} {more : List Comprehension} {a b c : Str} {pa pb pc tp : Pos} {kk : Nat} {scope : Scope} {cl : List (Str × Addr)} {pos p : Pos} {rest : Value → Env → Sem Unit} {Q : Value → Shared → Prop} {l : Addr} {its : Array Value} {nl : Nat} {tail : List (Addr × Obj)} {m : Str → Option Value}
  (f : Nat → Value × Value × Value) (items : σ → List Value) (nn : σ → Nat) (Own : σ → List (Addr × Obj)) (P : Nat → σ → Prop) (c₀ : σ)
  (hits : ∀ (i : Nat) (v : Value), its[i]? = some v → ∃ T, v = .ref T ∧ (T, ({ cls := .type "tuple", data := .seq #[(f i).1, (f i).2.1, (f i).2.2] } : Obj)) ∈ tail)
  (hT : ∀ it acc cenv, compTurn (.ListComp elt (⟨.Tuple [.Name a pa, .Name b pb, .Name c pc] kk tp, iter, ifs, 0⟩ :: more) scope pos) 0 it acc cenv = (standAt p >>= fun _ => pyNext it >>= fun r => match r with
   | none => pure (.done .next)
   | some v => letOwnedTupleGo (.Tuple [.Name a pa, .Name b pb, .Name c pc] kk tp) it v >>= fun _ => assign (.Tuple [.Name a pa, .Name b pb, .Name c pc] kk tp) cenv v >>= fun _ => rest acc cenv >>= fun _ => again (.compLoop (.ListComp elt (⟨.Tuple [.Name a pa, .Name b pb, .Name c pc] kk tp, iter, ifs, 0⟩ :: more) scope pos) 0 it acc cenv)))
  (F : Fr h₀ L s.heap m) (N : News h₀ L s.heap (Own c₀ ++ ((l, listOf its nl) :: tail))) (hh : A.handled = none) (hc1 : items c₀ = []) (hc2 : nn c₀ = 0) (hP : P 0 c₀)
  (hcell : ∀ y ∈ scope.names, y.2 ≠ .cell) (hkind : scope.kind = .function) (hxa : scope.names.lookup a = some .local) (hxb : scope.names.lookup b = some .local) (hxc : scope.names.lookup c = some .local)
  (turn : ∀ (D C I : Addr) (c9 : σ) i T h tk oI oC (mC : Str → Option Value), D < C → (∀ p ∈ (I, oI) :: (l, listOf its nl) :: tail, p.1 < D) → its[i]? = some (.ref T) → isIter oI = true → P i c9 → NsO oC (updN c (f i).2.2 (updN b (f i).2.1 (updN a (f i).1 mC))) → Fr h₀ L h m → News h₀ L h ((D, listOf (items c9).toArray (nn c9)) :: (Own c9 ++ ((C, oC) :: (I, oI) :: (l, listOf its nl) :: tail))) →
   wpAny (model prog w) A (rest (.ref D) (compEnvC scope cl C env)) (fun _ s₄ => CpEnd h₀ L C I oI (fun c => (D, listOf (items c).toArray (nn c)) :: Own c) ((l, listOf its nl) :: tail) m P (i + 1) { s with heap := h, toks := tk } s₄) (fun _ _ => False) { s with heap := h, toks := tk })
  (done : ∀ (D : Addr) (c9 : σ) h tk, P its.size c9 → Fr h₀ L h m → News h₀ L h ((D, listOf (items c9).toArray (nn c9)) :: (Own c9 ++ ((l, listOf its nl) :: tail))) → Q (.ref D) { s with heap := h, toks := tk }) :
  wpAny (model prog w) A (pyIter (.ref l)) (fun it s₂ => GenGo prog w A env elt (⟨.Tuple [.Name a pa, .Name b pb, .Name c pc] kk tp, iter, ifs, 0⟩ :: more) scope cl pos Q E it s₂) E s := by
 have hlm : (l, listOf its nl) ∈ Own c₀ ++ ((l, listOf its nl) :: tail) := List.mem_append.mpr (.inr (List.mem_cons_self ..))
 have hol : s.heap.get? l = some (listOf its nl) := (N _ hlm).1
 have hls : s.heap.IsList l its := ⟨_, hol, rfl, nl, rfl⟩
 have hne : l ≠ s.heap.objs.size := Nat.ne_of_lt (Heap.lt_size hol)
 refine wpAny_pyIter_list hls ?_
 have W := Walks.list (prog := prog) (w := w) hh s.heap.objs.size l hne its
 refine gen_go (s := { s with heap := s.heap.push { cls := .type "list_iterator", data := .fields #[.ref l, .int 0 0] } }) (fun i _ mC => updN c (f i).2.2 (updN b (f i).2.1 (updN a (f i).1 mC))) items nn Own _ P c₀ (hT _) W (fun i h st => ?_) ?_ ?_ ?_ (next_is_new F) (fun e => absurd F.ns.lt (e ▸ Nat.lt_irrefl _)) (fun p hp e => absurd (Heap.lt_size (N p hp).1) (by rw [e]; exact Nat.lt_irrefl _)) ⟨⟨_, Heap.get?_push_size _ rfl, rfl, rfl⟩, hls.at fun o e => Heap.get?_push_of_some _ e⟩ hcell hkind hc1 hc2
  (F.push _) (fun p hp => ⟨Heap.get?_push_of_some _ (N p hp).1, (N p hp).2⟩) hP ?_ ?_ done
 ·(refine Mine.foldG ?_; intro gk181; (first | refine Mine.exE st ?_ | refine Mine.anE st ?_); intro zo177 zo178; clear st; (first | refine Mine.exE zo177 ?_ | refine Mine.anE zo177 ?_); intro o zo179; clear zo177; (first | refine Mine.exE zo179 ?_ | refine Mine.anE zo179 ?_); intro ho zo180; clear zo179; (first | refine Mine.exE zo180 ?_ | refine Mine.anE zo180 ?_); intro hc hd; clear zo180; unfold gk181; clear gk181)
  exact ⟨o, ho, iter_of hc hd (by decide) rfl (fun _ _ h => nomatch h)⟩
 ·intro b hb
  rcases List.mem_cons.mp hb with rfl | hb
  ·exact .inl rfl
  ·rw [List.mem_singleton.mp hb]; exact .inr (.inr ⟨_, fun c => List.mem_append.mpr (.inr (List.mem_cons_self ..))⟩)
 ·intro b hb
  show b < (s.heap.push _).objs.size
  rw [Heap.size_push]
  rcases List.mem_cons.mp hb with rfl | hb
  ·exact Nat.lt_succ_self _
  ·rw [List.mem_singleton.mp hb]; exact Nat.lt_succ_of_lt (Heap.lt_size hol)
 ·show s.heap.objs.size < (s.heap.push _).objs.size
  rw [Heap.size_push]; exact Nat.lt_succ_self _
 ·intro C c9 i v s₁ mC Q' E' _ hv hst _ hn hl hQ
  ((first | refine Mine.exE (hits i v hv) ?_ | refine Mine.anE (hits i v hv) ?_); intro T zo182; (first | refine Mine.exE zo182 ?_ | refine Mine.anE zo182 ?_); intro zo183 hT9; clear zo182; subst zo183)
  refine store_tup3 hh hst.1 ⟨_, hl _ (List.mem_append.mpr (.inr (List.mem_cons_of_mem _ hT9))), rfl, _, rfl⟩ (lookup_relabel_local hxa) (lookup_relabel_local hxb) (lookup_relabel_local hxc) (by simp [compEnvC, relabel, hkind]) hn hQ
 ·intro D C c9 i v h tk oI oC mC hDC hDl hi hv ho hc hN F' N'
  ((first | refine Mine.exE (hits i v hv) ?_ | refine Mine.anE (hits i v hv) ?_); intro T zo184; (first | refine Mine.exE zo184 ?_ | refine Mine.anE zo184 ?_); intro zo185 hT9; clear zo184; subst zo185)
  exact turn D C _ c9 i T h tk oI oC mC hDC hDl hv ho hc hN F' N'
end
end Mine
end
section
namespace Mine
inductive Tree where
 | leaf : Tree
 | node : Tree → Tree → Tree → Tree
noncomputable def flat : Nat → Tree → List Nat
 | s, .leaf => [s]
 | s, .node a b c => flat 61 a ++ (flat (hexDig (s / 16)) b ++ flat (hexDig (s % 16)) c)
noncomputable def size : Tree → Nat
 | .leaf => 0
 | .node a b c => size a + size b + size c + 1
theorem flat_len : ∀ (t : Tree) (s : Nat), (flat s t).length = 1 + 2 * size t
 | .leaf, s => rfl
 | .node a b c, s => by
  simp only [flat, size, List.length_append, flat_len a, flat_len b, flat_len c]; omega
theorem flat_ne (s : Nat) (t : Tree) : flat s t ≠ [] := by
 intro h; have := flat_len t s; rw [h] at this; simp at this; omega
theorem hexDig_lt {d : Nat} (h : d < 16) : hexDig d < 71 := by unfold hexDig; split <;> omega
theorem hexDig_hex {d : Nat} (h : d < 16) : isHex (hexDig d) = true := by
 unfold hexDig isHex; split <;> simp <;> omega
theorem hexDig_ne {d : Nat} (h : d < 16) : hexDig d ≠ 61 := by unfold hexDig; split <;> omega
theorem hexDig_val {d : Nat} (h : d < 16) : hexVal (hexDig d) = d := by
 unfold hexDig hexVal; split
 ·rw [if_pos (by omega)]; omega
 ·rw [if_neg (by omega), if_pos (by omega)]; omega
theorem hi_lt {s : Nat} (h : s < 256) : s / 16 < 16 := by omega
theorem lo_lt (s : Nat) : s % 16 < 16 := by omega
theorem dig256 {d : Nat} (h : d < 16) : hexDig d < 256 := Nat.lt_trans (hexDig_lt h) (by decide)
theorem val_dig {s : Nat} (h : s < 256) : hexVal (hexDig (s / 16)) * 16 + hexVal (hexDig (s % 16)) = s := by
 rw [hexDig_val (hi_lt h), hexDig_val (lo_lt s)]; omega
noncomputable def AL (c : Nat) : Bool := c == 61 || (48 ≤ c && c ≤ 57) || (65 ≤ c && c ≤ 70)
theorem AL_dig {d : Nat} (h : d < 16) : AL (hexDig d) = true := by
 unfold hexDig AL; split <;> simp <;> omega
theorem flat_AL : ∀ (t : Tree) (s : Nat), s < 256 → (AL s = true ∨ t ≠ .leaf) → ∀ c ∈ flat s t, AL c = true
 | .leaf, s, _, h, c, hc => by
  rcases h with h | h
  ·rw [List.mem_singleton.mp hc]; exact h
  ·exact absurd rfl h
 | .node a b d, s, hs, _, c, hc => by
  rcases List.mem_append.mp hc with hc | hc
  ·exact flat_AL a 61 (by decide) (.inl rfl) c hc
  ·rcases List.mem_append.mp hc with hc | hc
   ·exact flat_AL b _ (dig256 (hi_lt hs)) (.inl (AL_dig (hi_lt hs))) c hc
   ·exact flat_AL d _ (dig256 (lo_lt s)) (.inl (AL_dig (lo_lt s))) c hc
theorem AL_lt {c : Nat} (h : AL c = true) : c < 71 := by
 unfold AL at h; simp at h; omega
theorem flat_lt (t : Tree) (s : Nat) (hs : s < 256) : ∀ c ∈ flat s t, c < 256 := by
 intro c hc
 cases t with
 | leaf => rw [List.mem_singleton.mp hc]; exact hs
 | node a b d => exact Nat.lt_trans (AL_lt (flat_AL _ s hs (.inr (by intro h; cases h)) c hc)) (by decide)
theorem flat_last : ∀ (t : Tree) (s : Nat), s < 256 → (s ≠ 61 ∨ t ≠ .leaf) → ∃ l c, flat s t = l ++ [c] ∧ c ≠ 61
 | .leaf, s, _, h => by
  rcases h with h | h
  ·exact ⟨[], s, rfl, h⟩
  ·exact absurd rfl h
 | .node a b d, s, hs, _ => by
  obtain ⟨l, c, e, hc⟩ := flat_last d (hexDig (s % 16)) (dig256 (lo_lt s)) (.inl (hexDig_ne (lo_lt s)))
  exact ⟨flat 61 a ++ (flat (hexDig (s / 16)) b ++ l), c, by simp only [flat, e, List.append_assoc], hc⟩

noncomputable def putT : Tree → Nat → Tree
 | .leaf, _ => .node .leaf .leaf .leaf
 | .node a b c, p => if p < 1 + 2 * size a then .node (putT a p) b c else if p - (1 + 2 * size a) < 1 + 2 * size b then .node a (putT b (p - (1 + 2 * size a))) c
  else .node a b (putT c (p - (1 + 2 * size a) - (1 + 2 * size b)))
theorem size_put : ∀ (t : Tree) (p : Nat), size (putT t p) = size t + 1
 | .leaf, _ => rfl
 | .node a b c, p => by
  unfold putT
  split
  ·simp only [size, size_put a]; omega
  ·split
   ·simp only [size, size_put b]; omega
   ·simp only [size, size_put c]; omega
theorem putL_l {x y : List Nat} {p : Nat} (h : p < x.length) : putL (x ++ y) p = putL x p ++ y := by
 unfold putL
 rw [List.take_append_of_le_length (by omega), List.drop_append_of_le_length (by omega)]
 have : (x ++ y).getD p 0 = x.getD p 0 := by simp [List.getD, List.getElem?_append_left h]
 rw [this]; simp
theorem putL_r {x y : List Nat} {p : Nat} (h : x.length ≤ p) : putL (x ++ y) p = x ++ putL y (p - x.length) := by
 unfold putL
 have e1 : (x ++ y).take p = x ++ y.take (p - x.length) := by rw [List.take_append, List.take_of_length_le h]
 have e2 : (x ++ y).drop (p + 1) = y.drop (p - x.length + 1) := by
  rw [List.drop_append, List.drop_eq_nil_of_le (by omega), List.nil_append]; congr 1; omega
 have e3 : (x ++ y).getD p 0 = y.getD (p - x.length) 0 := by simp [List.getD, List.getElem?_append_right h]
 rw [e1, e2, e3]; simp
theorem put_flat : ∀ (t : Tree) (s p : Nat), s < 256 → p < 1 + 2 * size t → putL (flat s t) p = flat s (putT t p)
 | .leaf, s, p, _, h => by
  have : p = 0 := by simp only [size] at h; omega
  subst this; rfl
 | .node a b c, s, p, hs, h => by
  have la := flat_len a 61
  have lb := flat_len b (hexDig (s / 16))
  have lc := flat_len c (hexDig (s % 16))
  simp only [size] at h
  unfold putT
  split
  ·rename_i h1
   simp only [flat]
   rw [putL_l (by omega), put_flat a 61 p (by decide) h1]
  ·rename_i h1
   split
   ·rename_i h2
    simp only [flat]
    rw [putL_r (by omega), putL_l (by omega), la, put_flat b _ _ (dig256 (hi_lt hs)) h2]
   ·rename_i h2
    simp only [flat]
    rw [putL_r (by omega), putL_r (by omega), la, lb, put_flat c _ _ (dig256 (lo_lt s)) (by omega)]
noncomputable def roundT : Tree → Tree
 | .leaf => .leaf
 | .node .leaf .leaf .leaf => .leaf
 | .node a b c => .node (roundT a) (roundT b) (roundT c)
noncomputable def isLeaf : Tree → Bool
 | .leaf => true
 | _ => false
theorem isLeaf_iff {t : Tree} : isLeaf t = true ↔ t = .leaf := by cases t <;> simp [isLeaf]
theorem roundT_node {a b c : Tree} (h : ¬ (a = .leaf ∧ b = .leaf ∧ c = .leaf)) : roundT (.node a b c) = .node (roundT a) (roundT b) (roundT c) := by
 cases a <;> cases b <;> cases c <;> first | rfl | (exfalso; exact h ⟨rfl, rfl, rfl⟩)
noncomputable def rnd : List Nat → List Nat
 | [] => []
 | c :: r => if c = 61 then (match r with
   | a :: b :: r' => if isHex a = true ∧ isHex b = true then (hexVal a * 16 + hexVal b) :: rnd r' else 61 :: rnd (a :: b :: r')
   | r => 61 :: r)
  else c :: rnd r
theorem rnd_c {c : Nat} (r : List Nat) (h : c ≠ 61) : rnd (c :: r) = c :: rnd r := by rw [rnd.eq_def]; dsimp only; rw [if_neg h]
theorem rnd_hex {a b : Nat} (r : List Nat) (ha : isHex a = true) (hb : isHex b = true) : rnd (61 :: a :: b :: r) = (hexVal a * 16 + hexVal b) :: rnd r := by
 rw [rnd.eq_def]; dsimp only; rw [if_pos rfl, if_pos ⟨ha, hb⟩]
theorem rnd_no {a b : Nat} (r : List Nat) (h : ¬ (isHex a = true ∧ isHex b = true)) : rnd (61 :: a :: b :: r) = 61 :: rnd (a :: b :: r) := by
 rw [rnd.eq_def]; dsimp only; rw [if_pos rfl, if_neg h]
theorem hex61 : isHex 61 = false := by decide
theorem flat_head : ∀ (t : Tree) (s : Nat), t ≠ .leaf → ∃ r, flat s t = 61 :: r
 | .leaf, _, h => absurd rfl h
 | .node a b c, s, _ => by
  cases ha : a with
  | leaf => exact ⟨_, rfl⟩
  | node x y z =>
   obtain ⟨r, e⟩ := flat_head a 61 (by rw [ha]; intro h; cases h)
   rw [← ha]
   exact ⟨_, by simp only [flat, e]; rfl⟩
theorem tail_two (b c : Tree) (u v : Nat) (y : List Nat) : ∃ p q r, flat u b ++ (flat v c ++ y) = p :: q :: r ∧ (b ≠ .leaf → p = 61) ∧ (b = .leaf → p = u ∧ (c ≠ .leaf → q = 61) ∧ (c = .leaf → q = v ∧ r = y)) := by
 cases hb : b with
 | node x1 x2 x3 =>
  obtain ⟨r, e⟩ := flat_head b u (by rw [hb]; intro h; cases h)
  rw [← hb, e]
  cases hr : r with
  | nil => have := flat_len b u; rw [e, hr] at this; rw [hb] at this; simp [size] at this
  | cons q r' => exact ⟨61, q, _, rfl, fun _ => rfl, fun h => by rw [hb] at h; cases h⟩
 | leaf =>
  cases hc : c with
  | leaf => exact ⟨u, v, y, rfl, fun h => absurd rfl h, fun _ => ⟨rfl, fun h => absurd rfl h, fun _ => ⟨rfl, rfl⟩⟩⟩
  | node x1 x2 x3 =>
   obtain ⟨r, e⟩ := flat_head c v (by rw [hc]; intro h; cases h)
   rw [← hc, e]
   exact ⟨u, 61, r ++ y, rfl, fun h => absurd rfl h, fun _ => ⟨rfl, fun _ => rfl, fun h => by rw [hc] at h; cases h⟩⟩
theorem rnd_flat : ∀ (t : Tree) (s : Nat) (y : List Nat), s < 256 → (s ≠ 61 ∨ t ≠ .leaf) → rnd (flat s t ++ y) = flat s (roundT t) ++ rnd y
 | .leaf, s, y, _, h => by
  rcases h with h | h
  ·exact rnd_c y h
  ·exact absurd rfl h
 | .node a b c, s, y, hs, _ => by
  have hh := hi_lt hs
  have hl := lo_lt s
  have ihb := rnd_flat b (hexDig (s / 16)) (flat (hexDig (s % 16)) c ++ y) (dig256 hh) (.inl (hexDig_ne hh))
  have ihc := rnd_flat c (hexDig (s % 16)) y (dig256 hl) (.inl (hexDig_ne hl))
  by_cases hall : a = .leaf ∧ b = .leaf ∧ c = .leaf
  ·obtain ⟨rfl, rfl, rfl⟩ := hall
   show rnd (61 :: hexDig (s / 16) :: hexDig (s % 16) :: y) = [s] ++ rnd y
   rw [rnd_hex _ (hexDig_hex hh) (hexDig_hex hl), val_dig hs]; rfl
  ·rw [roundT_node hall]
   simp only [flat, List.append_assoc]
   cases ha : a with
   | node x1 x2 x3 =>
    rw [← ha, rnd_flat a 61 _ (by decide) (.inr (by rw [ha]; intro h; cases h)), ihb, ihc]
   | leaf =>
    obtain ⟨p, q, r, e, h1, h2⟩ := tail_two b c (hexDig (s / 16)) (hexDig (s % 16)) y
    have hno : ¬ (isHex p = true ∧ isHex q = true) := by
     rintro ⟨hp, hq⟩
     by_cases hb : b = .leaf
     ·by_cases hc : c = .leaf
      ·exact hall ⟨ha, hb, hc⟩
      ·rw [(h2 hb).2.1 hc, hex61] at hq; cases hq
     ·rw [h1 hb, hex61] at hp; cases hp
    show rnd (61 :: (flat (hexDig (s / 16)) b ++ (flat (hexDig (s % 16)) c ++ y))) = 61 :: (flat (hexDig (s / 16)) (roundT b) ++ (flat (hexDig (s % 16)) (roundT c) ++ rnd y))
    rw [← ihc, ← ihb, e, rnd_no _ hno]
noncomputable def prunes : Tree → List Tree
 | .leaf => []
 | .node a b c => if isLeaf a && isLeaf b && isLeaf c then [.leaf] else (prunes a).map (fun x => .node x b c) ++ ((prunes b).map (fun x => .node a x c) ++ (prunes c).map (fun x => .node a b x))
theorem prunes_node {a b c : Tree} (h : ¬ (a = .leaf ∧ b = .leaf ∧ c = .leaf)) : prunes (.node a b c) = (prunes a).map (fun x => .node x b c) ++ ((prunes b).map (fun x => .node a x c) ++ (prunes c).map (fun x => .node a b x)) := by
 rw [prunes, if_neg]
 intro hh; simp only [Bool.and_eq_true, isLeaf_iff] at hh; exact h ⟨hh.1.1, hh.1.2, hh.2⟩
noncomputable def esc3 : List Nat → Bool
 | c :: a :: b :: _ => c == 61 && a != 61 && b != 61
 | _ => false
noncomputable def cutHd : List Nat → List (List Nat)
 | c :: a :: b :: r => if c = 61 ∧ a ≠ 61 ∧ b ≠ 61 then [(hexVal a * 16 + hexVal b) :: r] else []
 | _ => []
noncomputable def cutsL : List Nat → List (List Nat)
 | [] => []
 | c :: r => cutHd (c :: r) ++ (cutsL r).map (c :: ·)
theorem cutHd_3 (c a b : Nat) (r : List Nat) : cutHd (c :: a :: b :: r) = if c = 61 ∧ a ≠ 61 ∧ b ≠ 61 then [(hexVal a * 16 + hexVal b) :: r] else [] := rfl
theorem cutHd_ne {c : Nat} (r : List Nat) (h : c ≠ 61) : cutHd (c :: r) = [] := by
 match r with
 | [] => rfl
 | [_] => rfl
 | a :: b :: r => rw [cutHd_3, if_neg]; intro hh; exact h hh.1
theorem map_cons_app {x : List Nat} {c : Nat} (L : List (List Nat)) : (L.map (x ++ ·)).map (c :: ·) = L.map ((c :: x) ++ ·) := by rw [List.map_map]; rfl
theorem map_app_app {x z : List Nat} (L : List (List Nat)) : (L.map (x ++ ·)).map (z ++ ·) = L.map ((z ++ x) ++ ·) := by
 rw [List.map_map]; exact List.map_congr_left fun a _ => by simp
theorem cuts_flat : ∀ (t : Tree) (s : Nat) (y : List Nat), s < 256 → (s ≠ 61 ∨ t ≠ .leaf) → cutsL (flat s t ++ y) = (prunes t).map (fun u => flat s u ++ y) ++ (cutsL y).map (flat s t ++ ·)
 | .leaf, s, y, _, h => by
  rcases h with h | h
  ·show cutHd (s :: y) ++ (cutsL y).map (s :: ·) = [] ++ (cutsL y).map ([s] ++ ·)
   rw [cutHd_ne y h]; rfl
  ·exact absurd rfl h
 | .node a b c, s, y, hs, _ => by
  have hh := hi_lt hs
  have hl := lo_lt s
  have ihb := cuts_flat b (hexDig (s / 16)) (flat (hexDig (s % 16)) c ++ y) (dig256 hh) (.inl (hexDig_ne hh))
  have ihc := cuts_flat c (hexDig (s % 16)) y (dig256 hl) (.inl (hexDig_ne hl))
  by_cases hall : a = .leaf ∧ b = .leaf ∧ c = .leaf
  ·obtain ⟨rfl, rfl, rfl⟩ := hall
   have e1 : prunes (.node .leaf .leaf .leaf) = [.leaf] := rfl
   rw [e1]
   show cutHd (61 :: hexDig (s / 16) :: hexDig (s % 16) :: y) ++ (cutHd (hexDig (s / 16) :: hexDig (s % 16) :: y) ++ (cutHd (hexDig (s % 16) :: y) ++ (cutsL y).map (hexDig (s % 16) :: ·)).map (hexDig (s / 16) :: ·)).map (61 :: ·) = _
   rw [cutHd_ne _ (hexDig_ne hh), cutHd_ne _ (hexDig_ne hl)]
   have : cutHd (61 :: hexDig (s / 16) :: hexDig (s % 16) :: y) = [s :: y] := by
    rw [cutHd_3, if_pos ⟨rfl, hexDig_ne hh, hexDig_ne hl⟩, val_dig hs]
   rw [this]
   simp [flat, List.map_map, Function.comp_def]
  ·rw [prunes_node hall]
   simp only [flat, List.append_assoc]
   cases ha : a with
   | node x1 x2 x3 =>
    rw [← ha, cuts_flat a 61 _ (by decide) (.inr (by rw [ha]; intro h; cases h)), ihb, ihc]
    simp [List.map_map, Function.comp_def, flat]
   | leaf =>
    obtain ⟨p, q, r, e, h1, h2⟩ := tail_two b c (hexDig (s / 16)) (hexDig (s % 16)) y
    have hno : cutHd (61 :: p :: q :: r) = [] := by
     rw [cutHd_3, if_neg]
     rintro ⟨-, hp, hq⟩
     by_cases hb : b = .leaf
     ·by_cases hc : c = .leaf
      ·exact hall ⟨ha, hb, hc⟩
      ·exact hq ((h2 hb).2.1 hc)
     ·exact hp (h1 hb)
    show cutHd (61 :: (flat (hexDig (s / 16)) b ++ (flat (hexDig (s % 16)) c ++ y))) ++ (cutsL (flat (hexDig (s / 16)) b ++ (flat (hexDig (s % 16)) c ++ y))).map (61 :: ·) = _
    rw [e, hno, ← e, ihb, ihc]
    simp [List.map_map, Function.comp_def, flat, prunes]
theorem cuts_tree (t : Tree) (s : Nat) (hs : s < 256) : cutsL (flat s t) = (prunes t).map (flat s) := by
 cases t with
 | leaf => rfl
 | node a b c =>
  have := cuts_flat (.node a b c) s [] hs (.inr (by intro h; cases h))
  rw [List.append_nil] at this
  rw [this]; simp [cutsL]
end Mine
end
section
namespace Mine
section
variable {α : Type} (nd : α → α → α → α) (e : α)
noncomputable def settle : List (Nat × α) → List (Nat × α)
 | (c3, a3) :: (c2, a2) :: (c1, a1) :: r => if c1 = 61 ∧ c2 ≠ 61 ∧ c3 ≠ 61 then settle ((hexVal c2 * 16 + hexVal c3, nd a1 a2 a3) :: r) else (c3, a3) :: (c2, a2) :: (c1, a1) :: r
 | p => p
termination_by p => p.length
noncomputable def settleOk : List (Nat × α) → Prop
 | (c3, a3) :: (c2, a2) :: (c1, a1) :: r => if c1 = 61 ∧ c2 ≠ 61 ∧ c3 ≠ 61 then isHex c2 = true ∧ isHex c3 = true ∧ settleOk ((hexVal c2 * 16 + hexVal c3, nd a1 a2 a3) :: r) else True
 | _ => True
termination_by p => p.length
theorem settle_go {c1 c2 c3 : Nat} {a1 a2 a3 : α} {r : List (Nat × α)} (h : c1 = 61 ∧ c2 ≠ 61 ∧ c3 ≠ 61) :
  settle nd ((c3, a3) :: (c2, a2) :: (c1, a1) :: r) = settle nd ((hexVal c2 * 16 + hexVal c3, nd a1 a2 a3) :: r) := by
 rw [settle, if_pos h]
theorem settle_stop {c1 c2 c3 : Nat} {a1 a2 a3 : α} {r : List (Nat × α)} (h : ¬ (c1 = 61 ∧ c2 ≠ 61 ∧ c3 ≠ 61)) :
  settle nd ((c3, a3) :: (c2, a2) :: (c1, a1) :: r) = (c3, a3) :: (c2, a2) :: (c1, a1) :: r := by
 rw [settle, if_neg h]
theorem settle_short {p : List (Nat × α)} (h : p.length < 3) : settle nd p = p := by
 match p, h with
 | [], _ => rw [settle]; intros; simp_all
 | [_], _ => rw [settle]; intros; simp_all
 | [_, _], _ => rw [settle]; intros; simp_all
theorem settleOk_go {c1 c2 c3 : Nat} {a1 a2 a3 : α} {r : List (Nat × α)} (h : c1 = 61 ∧ c2 ≠ 61 ∧ c3 ≠ 61) :
  settleOk nd ((c3, a3) :: (c2, a2) :: (c1, a1) :: r) = (isHex c2 = true ∧ isHex c3 = true ∧ settleOk nd ((hexVal c2 * 16 + hexVal c3, nd a1 a2 a3) :: r)) := by
 rw [settleOk, if_pos h]
theorem settleOk_stop {c1 c2 c3 : Nat} {a1 a2 a3 : α} {r : List (Nat × α)} (h : ¬ (c1 = 61 ∧ c2 ≠ 61 ∧ c3 ≠ 61)) :
  settleOk nd ((c3, a3) :: (c2, a2) :: (c1, a1) :: r) := by
 rw [settleOk, if_neg h]; trivial
theorem settleOk_short {p : List (Nat × α)} (h : p.length < 3) : settleOk nd p := by
 match p, h with
 | [], _ => rw [settleOk]; trivial; intros; simp_all
 | [_], _ => rw [settleOk]; trivial; intros; simp_all
 | [_, _], _ => rw [settleOk]; trivial; intros; simp_all
noncomputable def readP : List (Nat × α) → List Nat → List (Nat × α)
 | p, [] => p
 | p, c :: r => readP (settle nd ((c, e) :: p)) r
noncomputable def readOk : List (Nat × α) → List Nat → Prop
 | _, [] => True
 | p, c :: r => settleOk nd ((c, e) :: p) ∧ readOk (settle nd ((c, e) :: p)) r
theorem readP_app : ∀ (x y : List Nat) (p : List (Nat × α)), readP nd e p (x ++ y) = readP nd e (readP nd e p x) y
 | [], _, _ => rfl
 | c :: x, y, p => by show readP nd e _ (x ++ y) = _; rw [readP_app x y]; rfl
noncomputable def ann : Tree → α
 | .leaf => e
 | .node a b c => nd (ann a) (ann b) (ann c)
theorem settle_eq (a : α) (p : List (Nat × α)) : settle nd ((61, a) :: p) = (61, a) :: p := by
 match p with
 | [] => exact settle_short nd (by simp)
 | [_] => exact settle_short nd (by simp)
 | (_, _) :: (_, _) :: _ => exact settle_stop nd (fun h => h.2.2 rfl)
theorem settleOk_eq (a : α) (p : List (Nat × α)) : settleOk nd ((61, a) :: p) := by
 match p with
 | [] => exact settleOk_short nd (by simp)
 | [_] => exact settleOk_short nd (by simp)
 | (_, _) :: (_, _) :: _ => exact settleOk_stop nd (fun h => h.2.2 rfl)
theorem settle_two (u : Nat) (a b : α) (p : List (Nat × α)) : settle nd ((u, b) :: (61, a) :: p) = (u, b) :: (61, a) :: p := by
 match p with
 | [] => exact settle_short nd (by simp)
 | (_, _) :: _ => exact settle_stop nd (fun h => h.2.1 rfl)
theorem settleOk_two (u : Nat) (a b : α) (p : List (Nat × α)) : settleOk nd ((u, b) :: (61, a) :: p) := by
 match p with
 | [] => exact settleOk_short nd (by simp)
 | (_, _) :: _ => exact settleOk_stop nd (fun h => h.2.1 rfl)
theorem read_flat : ∀ (t : Tree) (s : Nat) (p : List (Nat × α)) (y : List Nat), s < 256 → readP nd e p (flat s t ++ y) = readP nd e (settle nd ((s, ann nd e t) :: p)) y
 | .leaf, s, p, y, _ => rfl
 | .node a b c, s, p, y, hs => by
  have hh := hi_lt hs
  have hl := lo_lt s
  simp only [flat, List.append_assoc]
  rw [read_flat a 61 p _ (by decide), settle_eq, read_flat b _ _ _ (dig256 hh), settle_two, read_flat c _ _ _ (dig256 hl), settle_go nd ⟨rfl, hexDig_ne hh, hexDig_ne hl⟩, val_dig hs]
  rfl
theorem ok_flat : ∀ (t : Tree) (s : Nat) (p : List (Nat × α)) (y : List Nat), s < 256 → settleOk nd ((s, ann nd e t) :: p) → readOk nd e (settle nd ((s, ann nd e t) :: p)) y → readOk nd e p (flat s t ++ y)
 | .leaf, s, p, y, _, h1, h2 => ⟨h1, h2⟩
 | .node a b c, s, p, y, hs, h1, h2 => by
  have hh := hi_lt hs
  have hl := lo_lt s
  simp only [flat, List.append_assoc]
  have e1 : settle nd ((hexDig (s % 16), ann nd e c) :: (hexDig (s / 16), ann nd e b) :: (61, ann nd e a) :: p) = settle nd ((s, ann nd e (.node a b c)) :: p) := by
   rw [settle_go nd ⟨rfl, hexDig_ne hh, hexDig_ne hl⟩, val_dig hs]; rfl
  refine ok_flat a 61 p _ (by decide) (settleOk_eq nd _ _) ?_
  rw [settle_eq]
  refine ok_flat b _ _ _ (dig256 hh) (settleOk_two nd _ _ _ _) ?_
  rw [settle_two]
  refine ok_flat c _ _ _ (dig256 hl) ?_ ?_
  ·rw [settleOk_go nd ⟨rfl, hexDig_ne hh, hexDig_ne hl⟩, val_dig hs]
   exact ⟨hexDig_hex hh, hexDig_hex hl, h1⟩
  ·rw [e1]; exact h2
theorem read_tree (t : Tree) (s : Nat) (hs : s < 256) : readP nd e [] (flat s t) = [(s, ann nd e t)] := by
 have := read_flat nd e t s [] [] hs
 rw [List.append_nil] at this
 rw [this, settle_short nd (by simp)]; rfl
theorem ok_tree (t : Tree) (s : Nat) (hs : s < 256) : readOk nd e [] (flat s t) := by
 have := ok_flat nd e t s [] [] hs (settleOk_short nd (by simp)) (by trivial)
 rwa [List.append_nil] at this
end
theorem ann_tree : ∀ t : Tree, ann Tree.node Tree.leaf t = t
 | .leaf => rfl
 | .node a b c => by simp only [ann, ann_tree a, ann_tree b, ann_tree c]
theorem flat_inj {s : Nat} (hs : s < 256) {t u : Tree} (h : flat s t = flat s u) : t = u := by
 have h1 := read_tree Tree.node Tree.leaf t s hs
 have h2 := read_tree Tree.node Tree.leaf u s hs
 rw [h, h2, ann_tree, ann_tree] at h1
 injection h1 with h1 _
 injection h1 with _ h1
 exact h1.symm
end Mine
end
section
namespace Mine
noncomputable def cn (a : Nat) : Nat := (cnts 5).getD a 0
noncomputable def pick : List (Nat × Nat × Nat) → Nat → Option ((Nat × Nat × Nat) × Nat)
 | [], _ => none
 | q :: r, n => if n < cn q.1 * cn q.2.1 * cn q.2.2 then some (q, n) else pick r (n - cn q.1 * cn q.2.1 * cn q.2.2)
noncomputable def spellT : Nat → Nat → Nat → Tree
 | 0, _, _ => .leaf
 | f + 1, k, n => match pick (sharesL k) n with
  | none => .leaf
  | some (q, m) => .node (spellT f q.1 (m / (cn q.2.1 * cn q.2.2))) (spellT f q.2.1 (m % (cn q.2.1 * cn q.2.2) / cn q.2.2)) (spellT f q.2.2 (m % (cn q.2.1 * cn q.2.2) % cn q.2.2))
theorem shares_mem {k : Nat} {q : Nat × Nat × Nat} (h : q ∈ sharesL k) : q.1 < k ∧ q.2.1 < k ∧ q.2.2 < k := by
 unfold sharesL sharesTo at h
 simp only [List.mem_flatMap, List.mem_range, List.mem_map] at h
 obtain ⟨a, ha, b, hb, rfl⟩ := h
 dsimp only
 omega
theorem pick_mem : ∀ {S : List (Nat × Nat × Nat)} {n : Nat} {q : Nat × Nat × Nat} {m : Nat}, pick S n = some (q, m) → q ∈ S ∧ m ≤ n
 | [], _, _, _, h => nomatch h
 | p :: S, n, q, m, h => by
  unfold pick at h
  split at h
  ·cases h; exact ⟨List.mem_cons_self .., Nat.le_refl _⟩
  ·obtain ⟨h1, h2⟩ := pick_mem h
   exact ⟨List.mem_cons_of_mem _ h1, Nat.le_trans h2 (Nat.sub_le _ _)⟩
theorem spellT_fuel : ∀ (f g k n : Nat), k ≤ f → k ≤ g → spellT f k n = spellT g k n
 | 0, 0, _, _, _, _ => rfl
 | 0, g + 1, k, n, h, _ => by
  have : k = 0 := by omega
  subst this
  unfold spellT; rfl
 | f + 1, 0, k, n, _, h => by
  have : k = 0 := by omega
  subst this
  unfold spellT; rfl
 | f + 1, g + 1, k, n, h1, h2 => by
  unfold spellT
  cases hp : pick (sharesL k) n with
  | none => rfl
  | some p =>
   obtain ⟨q, m⟩ := p
   obtain ⟨a1, a2, a3⟩ := shares_mem (pick_mem hp).1
   dsimp only
   rw [spellT_fuel f g q.1 _ (by omega) (by omega), spellT_fuel f g q.2.1 _ (by omega) (by omega), spellT_fuel f g q.2.2 _ (by omega) (by omega)]
theorem shares_sum {k : Nat} {q : Nat × Nat × Nat} (h : q ∈ sharesL k) : q.1 + q.2.1 + q.2.2 + 1 = k := by
 unfold sharesL sharesTo at h
 simp only [List.mem_flatMap, List.mem_range, List.mem_map] at h
 obtain ⟨a, ha, b, hb, rfl⟩ := h
 dsimp only
 omega
theorem size_spell : ∀ (f k n : Nat), size (spellT f k n) ≤ k
 | 0, k, n => Nat.zero_le _
 | f + 1, k, n => by
  unfold spellT
  cases hp : pick (sharesL k) n with
  | none => exact Nat.zero_le _
  | some p =>
   obtain ⟨q, m⟩ := p
   have hs := shares_sum (pick_mem hp).1
   have h1 := size_spell f q.1 (m / (cn q.2.1 * cn q.2.2))
   have h2 := size_spell f q.2.1 (m % (cn q.2.1 * cn q.2.2) / cn q.2.2)
   have h3 := size_spell f q.2.2 (m % (cn q.2.1 * cn q.2.2) % cn q.2.2)
   dsimp only [size]
   omega
theorem cn_pos : ∀ a, a ≤ 5 → 0 < cn a := by decide +kernel
theorem cn_le : ∀ a, a ≤ 5 → cn a ≤ 273 := by decide +kernel
theorem spellT_step {k n : Nat} {q : Nat × Nat × Nat} {m : Nat} (h : pick (sharesL k) n = some (q, m)) :
  spellT k k n = .node (spellT q.1 q.1 (m / (cn q.2.1 * cn q.2.2))) (spellT q.2.1 q.2.1 (m % (cn q.2.1 * cn q.2.2) / cn q.2.2)) (spellT q.2.2 q.2.2 (m % (cn q.2.1 * cn q.2.2) % cn q.2.2)) := by
 obtain ⟨a1, a2, a3⟩ := shares_mem (pick_mem h).1
 cases k with
 | zero => omega
 | succ k =>
  have e : spellT (k + 1) (k + 1) n = .node (spellT k q.1 (m / (cn q.2.1 * cn q.2.2))) (spellT k q.2.1 (m % (cn q.2.1 * cn q.2.2) / cn q.2.2)) (spellT k q.2.2 (m % (cn q.2.1 * cn q.2.2) % cn q.2.2)) := by
   rw [spellT, h]
  rw [e, spellT_fuel k q.1 q.1 _ (by omega) (Nat.le_refl _), spellT_fuel k q.2.1 q.2.1 _ (by omega) (Nat.le_refl _), spellT_fuel k q.2.2 q.2.2 _ (by omega) (Nat.le_refl _)]
theorem spellT_none {k n : Nat} (h : pick (sharesL k) n = none) : spellT k k n = .leaf := by
 cases k with
 | zero => rfl
 | succ k => rw [spellT, h]
end Mine
end
section
namespace Mine
open PySem.StrLaws PySem.Builtin PySem.Builtin.Str
noncomputable def brk (c : Nat) : Bool := Unicode.isLineBreak c
noncomputable def spc (c : Nat) : Bool := Unicode.isSpace c
noncomputable def spanL (start cur : Nat) : List Nat → List (Nat × Nat × Nat)
 | [] => if start < cur then [(start, cur, cur)] else []
 | c :: r => if (decide (start ≤ cur) && brk c) = true then (start, cur, if (c == 13 && r.head? == some 10) = true then cur + 2 else cur + 1) :: spanL (if (c == 13 && r.head? == some 10) = true then cur + 2 else cur + 1) (cur + 1) r
  else spanL start (cur + 1) r
theorem span_run (l : List Nat) : ∀ (r : List Nat) (cur : Nat) (st : LsSt), l.drop cur = r → cur + r.length = l.length →
  lsEnd (mk l) (Id.run (forIn (m := Id) (List.range' cur r.length) st (lsBody (mk l)))) = st.fst.toList ++ spanL st.snd cur r
 | [], cur, st, h, hl => by
  have e : (mk l).length = cur := by rw [mk_length, ← hl]; rfl
  show lsEnd (mk l) st = _
  unfold lsEnd spanL
  rw [e]
  split
  ·simp
  ·simp
 | c :: r, cur, (lines, start), h, hl => by
  have hcur : cur < l.length := by simp only [List.length_cons] at hl; omega
  have hd := List.drop_eq_getElem_cons hcur
  rw [h] at hd
  injection hd with h1 h2
  have hg : (mk l).cps.getD cur 0 = c := by simp [mk, Array.getD, hcur, h1]
  have hn : lsNext (mk l) cur = if (c == 13 && r.head? == some 10) = true then cur + 2 else cur + 1 := by
   unfold lsNext
   rw [hg]
   have : (mk l).cps[cur + 1]? = r.head? := by
    rw [h2, List.head?_drop]; simp [mk]
   rw [this]
  rw [List.length_cons, List.range'_succ, List.forIn_cons]
  unfold lsBody
  rw [hg, hn]
  unfold spanL
  by_cases hc : (decide (start ≤ cur) && Unicode.isLineBreak c) = true
  ·have hc' : (decide (start ≤ cur) && brk c) = true := hc
   simp only [hc, hc', if_true]
   refine (span_run l r (cur + 1) _ h2.symm (by simp only [List.length_cons] at hl; omega)).trans ?_
   simp
  ·have hc' : ¬ (decide (start ≤ cur) && brk c) = true := hc
   simp only [hc, hc', if_false]
   exact span_run l r (cur + 1) (lines, start) h2.symm (by simp only [List.length_cons] at hl; omega)
theorem spans_eq (l : List Nat) : lineSpans (mk l) = spanL 0 0 l := by
 rw [ls_eq, mk_length]
 have := span_run l l 0 (#[], 0) (by simp) (by simp)
 simpa using this
noncomputable def lnGo : Bool → List Nat → List Nat → List (List Nat)
 | _, acc, [] => if acc = [] then [] else [acc]
 | skip, acc, c :: r => if skip = true then lnGo false [] r else if brk c = true then acc :: lnGo (c == 13 && r.head? == some 10) [] r else lnGo false (acc ++ [c]) r
theorem span_lines (l : List Nat) : ∀ (r : List Nat) (start cur : Nat), l.drop cur = r → cur + r.length = l.length → start ≤ cur + 1 →
  (spanL start cur r).map (fun p => (l.take p.2.1).drop p.1) = lnGo (start == cur + 1) ((l.take cur).drop start) r
 | [], start, cur, h, hl, hs => by
  have e : l.take cur = l := List.take_of_length_le (by simp only [List.length_nil] at hl; omega)
  simp only [List.length_nil, Nat.add_zero] at hl
  unfold spanL lnGo
  rw [e]
  by_cases h1 : start < cur
  ·rw [if_pos h1, if_neg (by rw [List.drop_eq_nil_iff]; omega)]
   show [(l.take cur).drop start] = _
   rw [e]
  ·rw [if_neg h1, if_pos (by rw [List.drop_eq_nil_iff]; omega)]; rfl
 | c :: r, start, cur, h, hl, hs => by
  have hcur : cur < l.length := by simp only [List.length_cons] at hl; omega
  have hd := List.drop_eq_getElem_cons hcur
  rw [h] at hd
  injection hd with h1 h2
  have hl2 : cur + 1 + r.length = l.length := by simp only [List.length_cons] at hl; omega
  unfold spanL lnGo
  by_cases hk : start = cur + 1
  ·subst hk
   rw [if_neg (by simp; omega), if_pos (by simp)]
   rw [span_lines l r (cur + 1) (cur + 1) h2.symm hl2 (by omega)]
   congr 1
   ·simp
   ·rw [List.drop_eq_nil_iff]; simp; omega
  ·have hle : start ≤ cur := by omega
   rw [if_neg (show ¬ (start == cur + 1) = true by simp [hk])]
   by_cases hb : brk c = true
   ·rw [if_pos (by simp [hle, hb]), if_pos hb, List.map_cons]
    congr 1
    rw [span_lines l r _ (cur + 1) h2.symm hl2 (by split <;> omega)]
    congr 1
    ·by_cases hq : (c == 13 && r.head? == some 10) = true
     ·rw [if_pos hq, hq]; simp
     ·rw [if_neg hq]; simp only [Bool.not_eq_true] at hq; rw [hq]; simp
    ·rw [List.drop_eq_nil_iff]; simp; split <;> omega
   ·rw [if_neg (by simp [hb]), if_neg hb, span_lines l r start (cur + 1) h2.symm hl2 (by omega)]
    congr 1
    ·simp; omega
    ·have hsp : l.take (cur + 1) = l.take cur ++ [c] := by rw [List.take_add_one, List.getElem?_eq_getElem hcur, h1]; rfl
     rw [hsp, List.drop_append_of_le_length (by simp; omega)]
theorem sub_mk (l : List Nat) (i j : Nat) : strSub (mk l) i j = mk ((l.take j).drop i) := by
 apply Str.ext'
 apply Array.toList_inj.mp
 rw [strSub_toList]
 show (l.drop i).take (j - i) = (l.take j).drop i
 rw [List.drop_take]
theorem lines_eq (l : List Nat) : Txt.lines (mk l) = (lnGo false [] l).map mk := by
 have e : linesOf (mk l) = (lnGo false [] l).map mk := by
  unfold linesOf lineCuts
  rw [spans_eq, List.map_map]
  have h := span_lines l l 0 0 (by simp) (by simp) (by omega)
  simp only [List.take_zero, List.drop_nil] at h
  rw [show ((0 : Nat) == 0 + 1) = false from rfl] at h
  rw [← h, List.map_map]
  refine List.map_congr_left fun p _ => ?_
  obtain ⟨i, j, k⟩ := p
  exact sub_mk l i j
 unfold Txt.lines
 split
 ·rename_i hw
  rw [beq_iff_eq] at hw
  rw [← e]
  unfold linesOf
  rw [hw]
  exact congrArg (fun z => [z]) (sub_whole _).symm
 ·exact e
theorem ln_step {a b acc : List Nat} {c : Nat} (ha : a.all (fun x => !brk x) = true) (hc : brk c = true) (hr : ¬ (c = 13 ∧ b.head? = some 10)) : lnGo false acc (a ++ c :: b) = (acc ++ a) :: lnGo false [] b := by
 induction a generalizing acc with
 | nil =>
  show lnGo false acc (c :: b) = _
  have hq : (c == 13 && b.head? == some 10) = false := by
   cases h : (c == 13 && b.head? == some 10) with
   | false => rfl
   | true => simp at h; exact absurd h hr
  rw [lnGo, if_neg (by simp), if_pos hc, hq, List.append_nil]
 | cons x a ih =>
  rw [List.all_cons, Bool.and_eq_true] at ha
  have hx : ¬ brk x = true := by simpa using ha.1
  show lnGo false acc (x :: (a ++ c :: b)) = _
  rw [lnGo, if_neg (by simp), if_neg hx, ih ha.2, List.append_assoc]; rfl
theorem ln_crlf {a b acc : List Nat} (ha : a.all (fun x => !brk x) = true) : lnGo false acc (a ++ 13 :: 10 :: b) = (acc ++ a) :: lnGo false [] b := by
 induction a generalizing acc with
 | nil =>
  show lnGo false acc (13 :: 10 :: b) = _
  rw [lnGo, if_neg (by simp), if_pos (by decide +kernel), List.append_nil]
  congr 1
 | cons x a ih =>
  rw [List.all_cons, Bool.and_eq_true] at ha
  have hx : ¬ brk x = true := by simpa using ha.1
  show lnGo false acc (x :: (a ++ 13 :: 10 :: b)) = _
  rw [lnGo, if_neg (by simp), if_neg hx, ih ha.2, List.append_assoc]; rfl
theorem ln_last {a acc : List Nat} (ha : a.all (fun x => !brk x) = true) : lnGo false acc a = if acc ++ a = [] then [] else [acc ++ a] := by
 induction a generalizing acc with
 | nil => rw [lnGo]; simp
 | cons x a ih =>
  rw [List.all_cons, Bool.and_eq_true] at ha
  have hx : ¬ brk x = true := by simpa using ha.1
  rw [lnGo, if_neg (by simp), if_neg hx, ih ha.2, List.append_assoc]; rfl
theorem rstrip_eq (l : List Nat) : Txt.rstrip (mk l) = mk (l.reverse.dropWhile spc).reverse := by
 unfold Txt.rstrip
 rw [PyProof.Rows.stripBy_eq, sub_mk]
 congr 1
 show (l.take (stripHi _ true _ 0)).drop 0 = _
 simp only [stripHi, if_true, List.drop_zero, mk_length, mk_list]
 show l.take (l.length - (l.reverse.takeWhile spc).length) = _
 have h := List.takeWhile_append_dropWhile (p := spc) (l := l.reverse)
 have h2 : l = (l.reverse.dropWhile spc).reverse ++ (l.reverse.takeWhile spc).reverse := by
  rw [← List.reverse_append, h, List.reverse_reverse]
 have h3 := congrArg List.length h2
 simp only [List.length_append, List.length_reverse] at h3
 conv => lhs; rw [show l.take (l.length - (l.reverse.takeWhile spc).length) = ((l.reverse.dropWhile spc).reverse ++ (l.reverse.takeWhile spc).reverse).take (l.length - (l.reverse.takeWhile spc).length) from by rw [← h2]]
 rw [List.take_append_of_le_length (by simp; omega), List.take_of_length_le (by simp; omega)]
theorem rstrip_at {a w : List Nat} {c : Nat} (hw : w.all spc = true) (hc : spc c = false) : (Txt.rstrip (mk (a ++ c :: w))).cps.toList = a ++ [c] := by
 rw [rstrip_eq, mk_list]
 have : (a ++ c :: w).reverse = w.reverse ++ (c :: a.reverse) := by simp
 rw [this, List.dropWhile_append_of_pos (by intro x hx; exact List.all_eq_true.mp hw x (List.mem_reverse.mp hx)), List.dropWhile_cons_of_neg (by rw [hc]; simp)]
 simp
theorem rstrip_none {w : List Nat} (hw : w.all spc = true) : (Txt.rstrip (mk w)).cps.toList = [] := by
 rw [rstrip_eq, mk_list]
 have : w.reverse.dropWhile spc = [] := by
  have := List.dropWhile_append_of_pos (p := spc) (l₁ := w.reverse) (l₂ := []) (by intro x hx; exact List.all_eq_true.mp hw x (List.mem_reverse.mp hx))
  rw [List.append_nil] at this
  rw [this]; rfl
 rw [this]; rfl
end Mine
end
section
namespace Mine
open PySem.StrLaws
noncomputable def HE (c : Nat) : Bool := c == 61 || isHex c
theorem AL_HE {c : Nat} (h : AL c = true) : HE c = true := by
 unfold AL at h; unfold HE isHex; simp at h ⊢; omega
theorem rnd_1 (c : Nat) : rnd [c] = [c] := by
 rw [rnd.eq_def]; dsimp only; split <;> rename_i h
 ·rw [h]
 ·rw [rnd]
theorem rnd_nil : rnd [] = [] := by rw [rnd]
theorem rnd_2 (a b : Nat) : rnd [a, b] = [a, b] := by
 rw [rnd.eq_def]; dsimp only; split <;> rename_i h
 ·rw [h]
 ·rw [rnd_1]
theorem rnd_app : ∀ (n : Nat) (y z : List Nat), y.length ≤ n → rnd (y ++ 61 :: z) = rnd y ++ rnd (61 :: z)
 | n, [], z, _ => by rw [rnd_nil]; rfl
 | n + 1, c :: r, z, h => by
  have hr : r.length ≤ n := by simp only [List.length_cons] at h; omega
  by_cases hc : c = 61
  ·subst hc
   match r, hr with
   | [], _ =>
    rw [rnd_1]
    match z with
    | [] => show rnd [61, 61] = _; rw [rnd_2, rnd_1]; rfl
    | b :: z' =>
     show rnd (61 :: 61 :: b :: z') = [61] ++ rnd (61 :: b :: z')
     rw [rnd_no _ (by rw [hex61]; simp)]; rfl
   | [a], hr =>
    rw [rnd_2]
    show rnd (61 :: a :: 61 :: z) = [61, a] ++ rnd (61 :: z)
    rw [rnd_no _ (by rw [hex61]; simp)]
    have := rnd_app n [a] z hr
    rw [rnd_1] at this
    show 61 :: rnd ([a] ++ 61 :: z) = _
    rw [this]; rfl
   | a :: b :: r', hr =>
    show rnd (61 :: a :: b :: (r' ++ 61 :: z)) = _
    by_cases hh : isHex a = true ∧ isHex b = true
    ·rw [rnd_hex _ hh.1 hh.2, rnd_hex _ hh.1 hh.2, rnd_app n r' z (by simp only [List.length_cons] at hr; omega)]; rfl
    ·rw [rnd_no _ hh, rnd_no _ hh]
     have := rnd_app n (a :: b :: r') z hr
     show 61 :: rnd ((a :: b :: r') ++ 61 :: z) = _
     rw [this]; rfl
  ·show rnd (c :: (r ++ 61 :: z)) = _
   rw [rnd_c _ hc, rnd_c _ hc, rnd_app n r z hr]; rfl
theorem scan_app (e : List Nat) : ∀ (n : Nat) (y z : List Nat), y.length ≤ n → scan e (y ++ 61 :: z) = rnd y ++ scan e (61 :: z)
 | n, [], z, _ => by rw [rnd_nil]; rfl
 | n + 1, c :: r, z, h => by
  have hr : r.length ≤ n := by simp only [List.length_cons] at h; omega
  by_cases hc : c = 61
  ·subst hc
   match r, hr with
   | [], _ =>
    rw [rnd_1]
    match z with
    | [] => show scan e [61, 61] = _; rw [scan_2]; rfl
    | b :: z' =>
     show scan e (61 :: 61 :: b :: z') = [61] ++ scan e (61 :: b :: z')
     rw [scan_3, if_neg (by rw [hex61]; simp)]; rfl
   | [a], hr =>
    rw [rnd_2]
    show scan e (61 :: a :: 61 :: z) = [61, a] ++ scan e (61 :: z)
    rw [scan_3, if_neg (by rw [hex61]; simp)]
    have := scan_app e n [a] z hr
    rw [rnd_1] at this
    show 61 :: scan e ([a] ++ 61 :: z) = _
    rw [this]; rfl
   | a :: b :: r', hr =>
    show scan e (61 :: a :: b :: (r' ++ 61 :: z)) = _
    rw [scan_3]
    by_cases hh : isHex a = true ∧ isHex b = true
    ·rw [if_pos hh, if_neg (by simp), rnd_hex _ hh.1 hh.2, scan_app e n r' z (by simp only [List.length_cons] at hr; omega)]; rfl
    ·rw [if_neg hh, rnd_no _ hh]
     have := scan_app e n (a :: b :: r') z hr
     show 61 :: scan e ((a :: b :: r') ++ 61 :: z) = _
     rw [this]; rfl
  ·show scan e (c :: (r ++ 61 :: z)) = _
   rw [rnd_c _ hc, scan_c _ _ hc, if_neg (by simp), scan_app e n r z hr]; rfl
theorem scan_soft1 (e y : List Nat) : scan e (y ++ [61]) = rnd y := by
 rw [scan_app e _ y [] (Nat.le_refl _), scan_1, List.append_nil]
theorem scan_four (e y : List Nat) : scan e (y ++ [61, 52]) = rnd y ++ 61 :: 52 :: e := by
 rw [scan_app e _ y [52] (Nat.le_refl _), scan_2, scan_c _ _ (by decide), if_pos rfl]
theorem scan_end (e : List Nat) : ∀ (n : Nat) (y : List Nat), y.length ≤ n → y ≠ [] → y.getLast? ≠ some 61 → scan e y = rnd y ++ e
 | n, [], _, h, _ => absurd rfl h
 | n + 1, c :: r, h, _, hl => by
  have hr : r.length ≤ n := by simp only [List.length_cons] at h; omega
  by_cases hc : c = 61
  ·subst hc
   match r, hr, hl with
   | [], _, hl => exact absurd rfl hl
   | [a], hr, hl =>
    have ha : a ≠ 61 := by intro h; subst h; exact hl rfl
    rw [scan_2, scan_c _ _ ha, if_pos rfl, rnd_2]; rfl
   | a :: b :: r', hr, hl =>
    rw [scan_3]
    have hl2 : (a :: b :: r').getLast? ≠ some 61 := by rw [List.getLast?_cons_cons] at hl; exact hl
    by_cases hh : isHex a = true ∧ isHex b = true
    ·rw [if_pos hh, rnd_hex _ hh.1 hh.2]
     by_cases h0 : r' = []
     ·subst h0; rw [if_pos rfl, rnd_nil]; rfl
     ·rw [if_neg h0, scan_end e n r' (by simp only [List.length_cons] at hr; omega) h0 (by
       obtain ⟨x, r'', rfl⟩ := List.exists_cons_of_ne_nil h0
       rw [List.getLast?_cons_cons, List.getLast?_cons_cons] at hl2; exact hl2)]; rfl
    ·rw [if_neg hh, rnd_no _ hh, scan_end e n (a :: b :: r') hr (by simp) hl2]; rfl
  ·rw [rnd_c _ hc, scan_c _ _ hc]
   by_cases h0 : r = []
   ·subst h0; rw [if_pos rfl, rnd_nil]; rfl
   ·rw [if_neg h0, scan_end e n r hr h0 (by
     obtain ⟨x, r'', rfl⟩ := List.exists_cons_of_ne_nil h0
     rw [List.getLast?_cons_cons] at hl; exact hl)]; rfl
theorem parts_join (x : List Nat) : joinL [61] (partsL x) = x := by
 have h := join_split (mk x) (Str.ofString "=")
 rw [show Str.ofString "=" = mk [61] from by decide +kernel] at h
 have e : Txt.split (mk x) (mk [61]) = (partsL x).map mk := by
  unfold partsL
  rw [show Str.ofString "=" = mk [61] from by decide +kernel, List.map_map]
  exact (List.map_id'' (fun y => mk_toList y) _).symm
 rw [e, join_mk] at h
 exact mk_inj.mp h
theorem parts_free (x : List Nat) : ∀ p ∈ partsL x, 61 ∉ p := by
 intro p hp
 unfold partsL at hp
 obtain ⟨y, hy, rfl⟩ := List.mem_map.mp hp
 rw [show Str.ofString "=" = (⟨#[61]⟩ : Str) from by decide +kernel] at hy
 exact split_free (mk x) 61 y hy
theorem parts_ne (x : List Nat) : partsL x ≠ [] := by
 intro h
 have := PyProof.Rows.split_pos (mk x) (Str.ofString "=")
 have e : (partsL x).length = (Txt.split (mk x) (Str.ofString "=")).length := by unfold partsL; rw [List.length_map]
 rw [← e, h] at this; simp at this
theorem join_all {q : Nat → Bool} : ∀ L : List (List Nat), (joinL [61] L).all q = true → ∀ p ∈ L, p.all q = true
 | [], _, _, hp => nomatch hp
 | [x], h, p, hp => by rw [List.mem_singleton.mp hp]; exact h
 | x :: y :: r, h, p, hp => by
  rw [show joinL [61] (x :: y :: r) = x ++ [61] ++ joinL [61] (y :: r) from rfl, List.all_append, List.all_append, Bool.and_eq_true, Bool.and_eq_true] at h
  rcases List.mem_cons.mp hp with rfl | hp
  ·exact h.1.1
  ·exact join_all (y :: r) h.2 p hp
theorem all_join {q : Nat → Bool} (hq : q 61 = true) : ∀ L : List (List Nat), (∀ p ∈ L, p.all q = true) → (joinL [61] L).all q = true
 | [], _ => rfl
 | [x], h => h x (List.mem_cons_self ..)
 | x :: y :: r, h => by
  rw [show joinL [61] (x :: y :: r) = x ++ [61] ++ joinL [61] (y :: r) from rfl, List.all_append, List.all_append, h x (List.mem_cons_self ..), all_join hq (y :: r) fun p hp => h p (List.mem_cons_of_mem _ hp)]
  simp [hq]
theorem free_hex {p : List Nat} (h : p.all HE = true) (hf : 61 ∉ p) : p.all isHex = true := by
 rw [List.all_eq_true] at h ⊢
 intro c hc
 have h1 := h c hc
 unfold HE at h1
 rw [Bool.or_eq_true, beq_iff_eq] at h1
 rcases h1 with h1 | h1
 ·subst h1; exact absurd hc hf
 ·exact h1
theorem parts_hex {x : List Nat} (hx : x.all HE = true) : ∀ p ∈ partsL x, p.all isHex = true := fun p hp =>
 free_hex (join_all _ (by rw [parts_join]; exact hx) p hp) (parts_free x p hp)
theorem roundOk_of {x : List Nat} (hx : x.all HE = true) : RoundOk x := by
 intro p hp hl
 have h := parts_hex hx p (List.mem_of_mem_tail hp)
 rw [List.all_eq_true] at h
 match p, hl with
 | a :: b :: r, _ => exact ⟨h a (by simp), h b (by simp)⟩
theorem rnd_free : ∀ {p : List Nat}, 61 ∉ p → rnd p = p
 | [], _ => rnd_nil
 | c :: r, h => by
  have hc : c ≠ 61 := fun e => h (e ▸ List.mem_cons_self ..)
  rw [rnd_c _ hc, rnd_free fun hm => h (List.mem_cons_of_mem _ hm)]
theorem rnd_part {p : List Nat} (h : p.all isHex = true) (hf : 61 ∉ p) : rnd (61 :: p) = roundPart p := by
 match p with
 | [] => exact rnd_1 61
 | [a] => exact rnd_2 61 a
 | a :: b :: r =>
  rw [List.all_eq_true] at h
  rw [rnd_hex _ (h a (by simp)) (h b (by simp)), rnd_free fun hm => hf (by simp [hm])]
  rfl
theorem rnd_join : ∀ L : List (List Nat), (∀ p ∈ L, p.all isHex = true ∧ 61 ∉ p) → L ≠ [] → rnd (joinL [61] L) = L.headD [] ++ (L.tail.map roundPart).flatten
 | [], _, h => absurd rfl h
 | [x], h, _ => by
  show rnd x = x ++ []
  rw [rnd_free (h x (List.mem_cons_self ..)).2, List.append_nil]
 | x :: y :: r, h, _ => by
  have hx := (h x (List.mem_cons_self ..)).2
  have hy := h y (by simp)
  have ih := rnd_join (y :: r) (fun p hp => h p (List.mem_cons_of_mem _ hp)) (by simp)
  rw [show joinL [61] (x :: y :: r) = x ++ 61 :: joinL [61] (y :: r) from by show x ++ [61] ++ _ = _; simp, rnd_app _ _ _ (Nat.le_refl _), rnd_free hx]
  have key : rnd (61 :: joinL [61] (y :: r)) = roundPart y ++ (r.map roundPart).flatten := by
   match r with
   | [] => show rnd (61 :: y) = _; rw [rnd_part hy.1 hy.2]; simp
   | z :: r' =>
    have e : joinL [61] (y :: z :: r') = y ++ 61 :: joinL [61] (z :: r') := by show y ++ [61] ++ _ = _; simp
    have ih2 := rnd_join (y :: z :: r') (fun p hp => h p (List.mem_cons_of_mem _ hp)) (by simp)
    rw [e] at ih2
    rw [e, show 61 :: (y ++ 61 :: joinL [61] (z :: r')) = (61 :: y) ++ 61 :: joinL [61] (z :: r') from rfl, rnd_app _ _ _ (Nat.le_refl _), rnd_part hy.1 hy.2]
    rw [rnd_app _ _ _ (Nat.le_refl _), rnd_free hy.2] at ih2
    have ih3 : rnd (61 :: joinL [61] (z :: r')) = (List.map roundPart (z :: r')).flatten := List.append_cancel_left ih2
    rw [ih3]
  rw [key]
  rfl
theorem round_rnd {x : List Nat} (hx : x.all HE = true) : roundL x = rnd x := by
 have h := rnd_join (partsL x) (fun p hp => ⟨parts_hex hx p hp, parts_free x p hp⟩) (parts_ne x)
 rw [parts_join] at h
 exact h.symm
end Mine
end
section
namespace Mine
open PySem.StrLaws PySem.Builtin PySem.Builtin.Str
theorem HE_lt {c : Nat} (h : HE c = true) : c < 103 := by
 unfold HE isHex at h; simp at h; omega
theorem HE_plain : ∀ c, c < 103 → HE c = true → brk c = false ∧ spc c = false ∧ c ≠ 13 ∧ c ≠ 10 := by decide +kernel
theorem HE_brk {c : Nat} (h : HE c = true) : brk c = false := (HE_plain c (HE_lt h) h).1
theorem HE_spc {c : Nat} (h : HE c = true) : spc c = false := (HE_plain c (HE_lt h) h).2.1
theorem all_brk {l : List Nat} (h : l.all HE = true) : l.all (fun x => !brk x) = true := by
 rw [List.all_eq_true] at h ⊢
 intro c hc; rw [HE_brk (h c hc)]; rfl
noncomputable def lowC (c : Nat) : Nat := if 65 ≤ c ∧ c ≤ 70 then c + 32 else c
noncomputable def lowL (l : List Nat) : List Nat := (Txt.lower (mk l)).cps.toList
theorem lowOf : ∀ c, c < 103 → isHex c = true → Unicode.lowerOf c = [lowC c] ∧ isHex (lowC c) = true ∧ lowC c ≠ 61 := by decide +kernel
theorem isHex_lt {c : Nat} (h : isHex c = true) : c < 103 := by
 unfold isHex at h; simp at h; omega
theorem low_hex {l : List Nat} (h : l.all isHex = true) : lowL l = l.map lowC := by
 rw [List.all_eq_true] at h
 unfold lowL Txt.lower placed
 show (Array.flatten (l.toArray.mapIdx fun i _ => (Unicode.lowerAt l.toArray i).toArray)).toList = _
 rw [Array.toList_flatten]
 have e : (List.map Array.toList (l.toArray.mapIdx fun i _ => (Unicode.lowerAt l.toArray i).toArray).toList) = l.map (fun c => [lowC c]) := by
  apply List.ext_getElem?
  intro i
  simp only [Array.toList_mapIdx, List.getElem?_map, List.getElem?_mapIdx, List.toList_toArray, Option.map_map]
  cases hi : l[i]? with
  | none => rfl
  | some c =>
   have hc := h c (List.mem_of_getElem? hi)
   have hlt := isHex_lt hc
   simp only [Option.map_some, Function.comp_def]
   unfold Unicode.lowerAt
   rw [show l.toArray[i]? = some c from by simpa using hi]
   dsimp only
   rw [if_neg (by simp; omega), (lowOf c hlt hc).1]
 rw [e]
 clear e h
 induction l with
 | nil => rfl
 | cons c r ih => simp only [List.map_cons, List.flatten_cons, ih]; rfl
noncomputable def lowPart (p : List Nat) : List Nat := if p.length > 1 then lowL (p.take 2) ++ p.drop 2 else p
noncomputable def smallL (x : List Nat) : List Nat := joinL [61] ((partsL x).map lowPart)
theorem lowPart_hex {p : List Nat} (h : p.all isHex = true) : (lowPart p).all isHex = true ∧ (lowPart p).length = p.length := by
 unfold lowPart
 split
 ·rw [low_hex (by rw [List.all_eq_true] at h ⊢; exact fun c hc => h c (List.mem_of_mem_take hc))]
  constructor
  ·rw [List.all_append, Bool.and_eq_true]
   rw [List.all_eq_true] at h
   constructor
   ·rw [List.all_eq_true]
    intro c hc
    obtain ⟨d, hd, rfl⟩ := List.mem_map.mp hc
    have hh := h d (List.mem_of_mem_take hd)
    exact (lowOf d (isHex_lt hh) hh).2.1
   ·rw [List.all_eq_true]; exact fun c hc => h c (List.mem_of_mem_drop hc)
  ·rw [List.length_append, List.length_map, List.length_take, List.length_drop]; omega
 ·exact ⟨h, rfl⟩
theorem small_all {x : List Nat} (hx : x.all HE = true) : (smallL x).all HE = true := by
 refine all_join rfl _ fun p hp => ?_
 obtain ⟨q, hq, rfl⟩ := List.mem_map.mp hp
 have h := (lowPart_hex (parts_hex hx q hq)).1
 rw [List.all_eq_true] at h ⊢
 intro c hc; unfold HE; rw [h c hc, Bool.or_true]
theorem join_last : ∀ L : List (List Nat), L ≠ [] → (∀ p ∈ L, 61 ∉ p) → (joinL [61] L ≠ [] → (joinL [61] L).getLast? ≠ some 61) → (1 < L.length → L.getLast? ≠ some [])
 | [], h, _, _, _ => absurd rfl h
 | [x], _, _, _, h => by simp at h
 | x :: y :: r, _, hf, hl, _ => by
  intro h
  rw [List.getLast?_cons_cons] at h
  have e : joinL [61] (x :: y :: r) = x ++ 61 :: joinL [61] (y :: r) := by show x ++ [61] ++ _ = _; simp
  rw [e] at hl
  have hl := hl (by simp)
  match r with
  | [] =>
   have hy : y = [] := by simpa using h
   subst hy
   apply hl
   show (x ++ [61]).getLast? = _
   simp
  | z :: r' =>
   have ih := join_last (y :: z :: r') (by simp) (fun p hp => hf p (List.mem_cons_of_mem _ hp)) ?_ (by simp)
   ·exact ih h
   ·intro h0 h1
    apply hl
    rw [List.getLast?_append, List.getLast?_cons, h1]; simp
theorem last_join : ∀ L : List (List Nat), (∀ p ∈ L, 61 ∉ p) → (1 < L.length → L.getLast? ≠ some []) → (joinL [61] L).getLast? ≠ some 61
 | [], _, _ => by simp [joinL]
 | [x], hf, _ => by
  intro h
  exact hf x (List.mem_cons_self ..) (List.mem_of_getLast? h)
 | x :: y :: r, hf, hl => by
  have hl := hl (by simp)
  rw [List.getLast?_cons_cons] at hl
  have e : joinL [61] (x :: y :: r) = x ++ 61 :: joinL [61] (y :: r) := by show x ++ [61] ++ _ = _; simp
  have ih := last_join (y :: r) (fun p hp => hf p (List.mem_cons_of_mem _ hp)) (fun _ => hl)
  rw [e]
  intro h
  rw [List.getLast?_append, List.getLast?_cons] at h
  have hne : joinL [61] (y :: r) ≠ [] := by
   intro h0
   match r with
   | [] =>
    have hy : y = [] := h0
    subst hy; exact hl rfl
   | z :: r' =>
    have : joinL [61] (y :: z :: r') = y ++ 61 :: joinL [61] (z :: r') := by show y ++ [61] ++ _ = _; simp
    rw [this] at h0; simp at h0
  obtain ⟨a, ha⟩ : ∃ a, (joinL [61] (y :: r)).getLast? = some a := by
   cases hq : (joinL [61] (y :: r)).getLast? with
   | none => rw [List.getLast?_eq_none_iff] at hq; exact absurd hq hne
   | some a => exact ⟨a, rfl⟩
  rw [ha] at h ih
  simp at h
  exact ih (by rw [h])
theorem small_last {x : List Nat} (hx : x.all HE = true) (hl : x.getLast? ≠ some 61) : (smallL x).getLast? ≠ some 61 := by
 have h1 := join_last (partsL x) (parts_ne x) (parts_free x) (fun _ => by rw [parts_join]; exact hl)
 refine last_join _ (fun p hp => ?_) (fun h => ?_)
 ·obtain ⟨q, hq, rfl⟩ := List.mem_map.mp hp
  have h := (lowPart_hex (parts_hex hx q hq)).1
  rw [List.all_eq_true] at h
  intro hm
  have := h 61 hm
  rw [hex61] at this; cases this
 ·rw [List.length_map] at h
  have h2 := h1 h
  rw [List.getLast?_map]
  cases hq : (partsL x).getLast? with
  | none => simp
  | some p =>
   rw [hq] at h2
   simp only [Option.map_some]
   intro h3
   apply h2
   have hp := parts_hex hx p (List.mem_of_getLast? hq)
   have hlen := (lowPart_hex hp).2
   rw [Option.some.inj h3] at hlen
   rw [List.length_eq_zero_iff.mp (show p.length = 0 from hlen.symm)]
theorem sum_len_join : ∀ L : List (List Nat), (joinL [61] L).length + 1 = (L.map List.length).sum + L.length ∨ L = []
 | [] => .inr rfl
 | [x] => .inl (by simp [joinL])
 | x :: y :: r => by
  left
  have e : joinL [61] (x :: y :: r) = x ++ 61 :: joinL [61] (y :: r) := by show x ++ [61] ++ _ = _; simp
  have ih := sum_len_join (y :: r)
  rcases ih with ih | ih
  ·rw [e, List.length_append, List.length_cons, List.map_cons, List.sum_cons, List.length_cons]; omega
  ·cases ih
theorem small_len {x : List Nat} (hx : x.all HE = true) : (smallL x).length = x.length := by
 have h1 := sum_len_join (partsL x)
 have h2 := sum_len_join ((partsL x).map lowPart)
 rw [parts_join] at h1
 have e : ((partsL x).map lowPart).map List.length = (partsL x).map List.length := by
  rw [List.map_map]
  exact List.map_congr_left fun p hp => (lowPart_hex (parts_hex hx p hp)).2
 rw [e, List.length_map] at h2
 rcases h1 with h1 | h1
 ·rcases h2 with h2 | h2
  ·show (joinL [61] _).length = _; omega
  ·exact absurd (List.map_eq_nil_iff.mp h2) (parts_ne x)
 ·exact absurd h1 (parts_ne x)
theorem lineOut_at {e a w : List Nat} {c : Nat} (hw : w.all spc = true) (hc : spc c = false) : lineOut e (mk (a ++ c :: w)) = scan e (a ++ [c]) := by
 unfold lineOut
 rw [rstrip_at hw hc, if_neg (by simp)]
theorem lineOut_none {e w : List Nat} (hw : w.all spc = true) : lineOut e (mk w) = e := by
 unfold lineOut
 rw [rstrip_none hw, if_pos rfl]
noncomputable def pre8 : List Nat := [32, 95, 9, 61, 71, 61, 52, 71]
theorem scan_pre (e : List Nat) {z : List Nat} (hz : z ≠ []) : scan e (pre8 ++ z) = pre8 ++ scan e z := by
 obtain ⟨c, r, rfl⟩ := List.exists_cons_of_ne_nil hz
 show scan e (32 :: 95 :: 9 :: 61 :: 71 :: 61 :: 52 :: 71 :: c :: r) = _
 rw [scan_c _ _ (by decide), if_neg (by simp), scan_c _ _ (by decide), if_neg (by simp), scan_c _ _ (by decide), if_neg (by simp), scan_3, if_neg (by decide), scan_c _ _ (by decide), if_neg (by simp), scan_3, if_neg (by decide), scan_c _ _ (by decide), if_neg (by simp), scan_c _ _ (by decide), if_neg (by simp)]
 rfl
noncomputable def softL (y : Nat) : List Nat := [61, 32, 9, 31, y, 61, 9, 10]
noncomputable def pageL (a : List Nat) (y : Nat) (b : List Nat) : List Nat := a ++ softL y ++ b
noncomputable def breaks : List Nat := [10, 11, 12, 13, 28, 29, 30]
theorem breaks_brk : ∀ y ∈ breaks, brk y = true := by decide +kernel
theorem page_lines {p a b q : List Nat} {y : Nat} (hp : p.all (fun x => !brk x) = true) (ha : a.all HE = true) (hy : y ∈ breaks) :
  lnGo false [] (p ++ pageL a y b ++ q) = (p ++ a ++ [61, 32, 9, 31]) :: [61, 9] :: lnGo false [] (b ++ q) := by
 have e : p ++ pageL a y b ++ q = (p ++ a ++ [61, 32, 9, 31]) ++ y :: ([61, 9] ++ 10 :: (b ++ q)) := by simp [pageL, softL]
 rw [e, ln_step (by rw [List.all_append, List.all_append, hp, all_brk ha]; decide +kernel) (breaks_brk y hy) (by simp), List.nil_append,
  ln_step (by decide +kernel) (by decide +kernel) (by simp), List.nil_append]
theorem dec_whole {a b e : List Nat} {y z : Nat} (ha : a.all HE = true) (hb : b.all HE = true) (hy : y ∈ breaks) (hz : z = 13 ∨ z = 10) :
  decodeT e (pre8 ++ pageL a y b ++ [61, 52, 32, 13, 10, 9, z]) = pre8 ++ (rnd a ++ rnd b) ++ [61, 52] ++ (e ++ e) := by
 have hl : lnGo false [] (b ++ [61, 52, 32, 13, 10, 9, z]) = [b ++ [61, 52, 32], [9]] := by
  have e1 : b ++ [61, 52, 32, 13, 10, 9, z] = (b ++ [61, 52, 32]) ++ 13 :: 10 :: ([9] ++ z :: []) := by simp
  have hzb : brk z = true := by rcases hz with rfl | rfl <;> decide +kernel
  rw [e1, ln_crlf (by rw [List.all_append, all_brk hb]; decide +kernel), List.nil_append, ln_step (by decide +kernel) hzb (by simp)]
  rfl
 have hd : linesOut e (Txt.lines (mk (pre8 ++ pageL a y b ++ [61, 52, 32, 13, 10, 9, z]))) = pre8 ++ (rnd a ++ rnd b) ++ [61, 52] ++ (e ++ e) := by
  rw [lines_eq, page_lines (by decide +kernel) ha hy, hl]
  unfold linesOut
  simp only [List.map_cons, List.map_nil, List.flatten_cons, List.flatten_nil]
  rw [show pre8 ++ a ++ [61, 32, 9, 31] = (pre8 ++ a) ++ 61 :: [32, 9, 31] from rfl, lineOut_at (by decide +kernel) (by decide +kernel),
   show ([61, 9] : List Nat) = [] ++ 61 :: [9] from rfl, lineOut_at (by decide +kernel) (by decide +kernel),
   show b ++ [61, 52, 32] = (b ++ [61]) ++ 52 :: [32] from by simp, lineOut_at (by decide +kernel) (by decide +kernel), lineOut_none (by decide +kernel),
   show pre8 ++ a ++ [61] = pre8 ++ (a ++ [61]) from by simp, scan_pre _ (by simp), scan_soft1, List.nil_append, scan_1,
   show b ++ [61] ++ [52] = b ++ [61, 52] from by simp, scan_four]
  simp
 unfold decodeT
 rw [hd]
 dsimp only
 rw [if_neg]
 rintro ⟨h1, h2, _⟩
 rw [List.getLast?_append] at h1 h2
 rcases hz with rfl | rfl
 ·exact h1 rfl
 ·exact h2 rfl
theorem suffix_self (d e : List Nat) : e.isSuffixOf (d ++ e) = true := by rw [List.isSuffixOf_iff_suffix]; exact List.suffix_append d e
theorem dec_cutE {x e d : List Nat} (h : linesOut e (Txt.lines (mk x)) = d ++ e) (h1 : x.getLast? ≠ some 13) (h2 : x.getLast? ≠ some 10) : decodeT e x = d := by
 unfold decodeT
 rw [h]
 dsimp only
 rw [if_pos ⟨h1, h2, suffix_self d e⟩]
 simp
theorem HE_last {b : List Nat} (hb : b.all HE = true) (h0 : b ≠ []) : b.getLast? ≠ some 13 ∧ b.getLast? ≠ some 10 := by
 rw [List.all_eq_true] at hb
 constructor
 ·intro h; exact (HE_plain 13 (by decide) (hb 13 (List.mem_of_getLast? h))).2.2.1 rfl
 ·intro h; exact (HE_plain 10 (by decide) (hb 10 (List.mem_of_getLast? h))).2.2.2 rfl
theorem line_end {b e : List Nat} (hb : b.all HE = true) (h0 : b ≠ []) (hl : b.getLast? ≠ some 61) : lineOut e (mk b) = rnd b ++ e := by
 have e1 : b = b.dropLast ++ b.getLast h0 :: [] := (List.dropLast_concat_getLast h0).symm
 have hs : spc (b.getLast h0) = false := HE_spc (List.all_eq_true.mp hb _ (List.getLast_mem h0))
 have := lineOut_at (e := e) (a := b.dropLast) (w := []) (by rfl) hs
 rw [← e1] at this
 rw [this, scan_end e _ b (Nat.le_refl _) h0 hl]
theorem page_first {a e : List Nat} : lineOut e (mk ([] ++ a ++ [61, 32, 9, 31])) = rnd a := by
 rw [show [] ++ a ++ [61, 32, 9, 31] = a ++ 61 :: [32, 9, 31] from rfl, lineOut_at (by decide +kernel) (by decide +kernel), scan_soft1]
theorem page_second {e : List Nat} : lineOut e (mk [61, 9]) = [] := by
 rw [show ([61, 9] : List Nat) = [] ++ 61 :: [9] from rfl, lineOut_at (by decide +kernel) (by decide +kernel), List.nil_append, scan_1]
theorem dec_page {a b e q : List Nat} {y : Nat} (ha : a.all HE = true) (hb : b.all HE = true) (hl : b.getLast? ≠ some 61) (hy : y ∈ breaks) (hq : q = [] ∨ q = [12] ∨ q = [30]) (he : e = [60, 62]) :
  decodeT e (pageL a y b ++ q) = rnd a ++ rnd b := by
 have hln : ∀ L, lnGo false [] (b ++ q) = L → Txt.lines (mk (pageL a y b ++ q)) = (([] ++ a ++ [61, 32, 9, 31]) :: [61, 9] :: L).map mk := by
  intro L hL
  rw [lines_eq, ← hL, ← page_lines (p := []) rfl ha hy]; rfl
 have hqq : ∀ c, q = [c] → brk c = true → c ≠ 13 → c ≠ 10 → decodeT e (pageL a y b ++ q) = rnd a ++ rnd b := by
  intro c hc hk h13 h10
  have hx : (pageL a y b ++ q).getLast? = some c := by rw [hc, List.getLast?_append]; rfl
  have hL : lnGo false [] (b ++ q) = [b] := by
   rw [hc, ln_step (all_brk hb) hk (by simp)]; rfl
  refine dec_cutE (d := rnd a ++ rnd b) ?_ (by rw [hx]; intro h; exact h13 (Option.some.inj h)) (by rw [hx]; intro h; exact h10 (Option.some.inj h))
  rw [hln _ hL]
  unfold linesOut
  simp only [List.map_cons, List.map_nil, List.flatten_cons, List.flatten_nil]
  rw [page_first, page_second]
  by_cases h0 : b = []
  ·subst h0; rw [lineOut_none rfl, rnd_nil]; simp
  ·rw [line_end hb h0 hl]; simp
 rcases hq with rfl | rfl | rfl
 ·by_cases h0 : b = []
  ·subst h0
   have hL : lnGo false [] ([] ++ ([] : List Nat)) = [] := rfl
   have hd := hln _ hL
   unfold decodeT
   rw [hd]
   dsimp only
   have hx : (pageL a y [] ++ []).getLast? = some 10 := by simp [pageL, softL]
   rw [if_neg (by rw [hx]; intro h; exact h.2.1 rfl)]
   unfold linesOut
   simp only [List.map_cons, List.map_nil, List.flatten_cons, List.flatten_nil]
   rw [page_first, page_second, rnd_nil]; simp
  ·have hL : lnGo false [] (b ++ []) = [b] := by
    rw [List.append_nil, ln_last (all_brk hb), List.nil_append, if_neg h0]
   obtain ⟨hx1, hx2⟩ := HE_last hb h0
   have hx : (pageL a y b ++ []).getLast? = b.getLast? := by
    rw [List.append_nil]; unfold pageL
    rw [List.getLast?_append]
    cases hb2 : b.getLast? with
    | none => rw [List.getLast?_eq_none_iff] at hb2; exact absurd hb2 h0
    | some c => rfl
   refine dec_cutE (d := rnd a ++ rnd b) ?_ (by rw [hx]; exact hx1) (by rw [hx]; exact hx2)
   rw [hln _ hL]
   unfold linesOut
   simp only [List.map_cons, List.map_nil, List.flatten_cons, List.flatten_nil]
   rw [page_first, page_second, line_end hb h0 hl]; simp
 ·exact hqq 12 rfl (by decide +kernel) (by decide) (by decide)
 ·exact hqq 30 rfl (by decide +kernel) (by decide) (by decide)
theorem soft_lines {x e : List Nat} (hx : x.all HE = true) : linesOut e (Txt.lines (mk (x ++ [61, 32]))) = rnd x := by
 rw [lines_eq, ln_last (by rw [List.all_append, all_brk hx]; decide +kernel), List.nil_append, if_neg (by simp)]
 unfold linesOut
 simp only [List.map_cons, List.map_nil, List.flatten_cons, List.flatten_nil, List.append_nil]
 rw [show x ++ [61, 32] = x ++ 61 :: [32] from rfl, lineOut_at (by decide +kernel) (by decide +kernel), scan_soft1]
theorem dec_soft_no {x e : List Nat} (hx : x.all HE = true) (he : ¬ e.isSuffixOf (rnd x) = true) : decodeT e (x ++ [61, 32]) = rnd x := by
 unfold decodeT
 rw [soft_lines hx]
 dsimp only
 rw [if_neg fun h => he h.2.2]
theorem dec_soft_cut {x : List Nat} {c : Nat} {d : List Nat} (hx : x.all HE = true) (hd : rnd x = d ++ [c]) : decodeT [c] (x ++ [61, 32]) = d := by
 refine dec_cutE ?_ (by simp) (by simp)
 rw [soft_lines hx, hd]
theorem dec_nl {x : List Nat} (hx : x.all HE = true) (h0 : x ≠ []) (hl : x.getLast? ≠ some 61) : decodeT [10] (x ++ [10]) = rnd x ++ [10] := by
 unfold decodeT
 rw [lines_eq, show x ++ [10] = x ++ 10 :: [] from rfl, ln_step (all_brk hx) (by decide +kernel) (by simp)]
 unfold linesOut
 rw [show lnGo false [] [] = [] from rfl]
 simp only [List.map_cons, List.map_nil, List.flatten_cons, List.flatten_nil, List.append_nil, List.nil_append]
 rw [line_end hx h0 hl, if_neg (by simp)]
end Mine
end
section
namespace Mine
noncomputable def eqT : Tree → Tree → Bool
 | .leaf, .leaf => true
 | .node a b c, .node x y z => eqT a x && eqT b y && eqT c z
 | _, _ => false
theorem eqT_iff : ∀ t u : Tree, eqT t u = true ↔ t = u
 | .leaf, .leaf => by simp [eqT]
 | .leaf, .node _ _ _ => by simp [eqT]
 | .node _ _ _, .leaf => by simp [eqT]
 | .node a b c, .node x y z => by
  simp only [eqT, Bool.and_eq_true, eqT_iff a x, eqT_iff b y, eqT_iff c z, Tree.node.injEq, and_assoc]
noncomputable def treesT : Nat → Nat → List Tree
 | 0, _ => [.leaf]
 | _ + 1, 0 => [.leaf]
 | f + 1, k + 1 => (sharesL (k + 1)).flatMap fun q => (treesT f q.1).flatMap fun a => (treesT f q.2.1).flatMap fun b => (treesT f q.2.2).map fun c => .node a b c
theorem mem_shares {a b c : Nat} : (a, b, c) ∈ sharesL (a + b + c + 1) := by
 unfold sharesL sharesTo
 simp only [List.mem_flatMap, List.mem_range, List.mem_map]
 exact ⟨a, by omega, b, by omega, by simp; omega⟩
theorem mem_trees : ∀ (f : Nat) (t : Tree), size t ≤ f → t ∈ treesT f (size t)
 | 0, .leaf, _ => List.mem_singleton.mpr rfl
 | f + 1, .leaf, _ => List.mem_singleton.mpr rfl
 | 0, .node a b c, h => by simp [size] at h
 | f + 1, .node a b c, h => by
  simp only [size] at h
  show Tree.node a b c ∈ treesT (f + 1) (size a + size b + size c + 1)
  unfold treesT
  simp only [List.mem_flatMap, List.mem_map]
  exact ⟨_, mem_shares, a, mem_trees f a (by omega), b, mem_trees f b (by omega), c, mem_trees f c (by omega), rfl⟩
noncomputable def lt3 (p q : Nat × Nat × Nat) : Bool := decide (p.1 < q.1) || (decide (p.1 = q.1) && (decide (p.2.1 < q.2.1) || (decide (p.2.1 = q.2.1) && decide (p.2.2 < q.2.2))))
noncomputable def aheadL (k : Nat) (q : Nat × Nat × Nat) : List (Nat × Nat × Nat) := (sharesL k).filter fun p => lt3 p q
noncomputable def blockN (p : Nat × Nat × Nat) : Nat := cn p.1 * cn p.2.1 * cn p.2.2
noncomputable def aheadN (q : Nat × Nat × Nat) : Nat := ((aheadL (q.1 + q.2.1 + q.2.2 + 1) q).map blockN).sum
noncomputable def ndR (x y z : Nat × Nat × Nat) : Nat × Nat × Nat :=
 (x.1 + y.1 + z.1 + 1, aheadN (x.1, y.1, z.1) + (x.2.1 * cn y.1 + y.2.1) * cn z.1 + z.2.1, x.2.2 * y.2.2 * z.2.2 * (x.1 + y.1 + z.1 + 1))
noncomputable def eR : Nat × Nat × Nat := (0, 0, 1)
noncomputable def rankT (t : Tree) : Nat × Nat × Nat := ann ndR eR t
theorem rank_size : ∀ t : Tree, (rankT t).1 = size t
 | .leaf => rfl
 | .node a b c => by
  show (rankT a).1 + (rankT b).1 + (rankT c).1 + 1 = _
  rw [rank_size a, rank_size b, rank_size c]; rfl
noncomputable def dPut (c : List (Tree × Int)) (k : Tree) (v : Int) : List (Tree × Int) :=
 if c.any (fun p => eqT p.1 k) then c.map (fun p => if eqT p.1 k then (p.1, v) else p) else c ++ [(k, v)]
noncomputable def dLook (c : List (Tree × Int)) (k : Tree) (d : Int) : Int := ((c.find? fun p => eqT p.1 k).map (·.2)).getD d
noncomputable def dHas (c : List (Tree × Int)) (k : Tree) : Bool := c.any fun p => eqT p.1 k
section
variable (f : Tree → Str) (hf : ∀ t u, f t = f u → t = u)
noncomputable def upD (c : List (Tree × Int)) : List (Str × Int) := c.map fun p => (f p.1, p.2)
include hf
theorem key_eq (t u : Tree) : decide (f t = f u) = eqT t u := by
 rw [Bool.eq_iff_iff, decide_eq_true_iff, eqT_iff]
 exact ⟨hf t u, fun h => h ▸ rfl⟩
theorem up_has (c : List (Tree × Int)) (k : Tree) : kdpHas (upD f c) (f k) = dHas c k := by
 unfold kdpHas upD dHas
 rw [List.any_map]
 congr 1
 funext p
 exact key_eq f hf p.1 k
theorem up_look (k : Tree) (d : Int) : ∀ c : List (Tree × Int), kdpLook (upD f c) (f k) d = dLook c k d
 | [] => rfl
 | p :: c => by
  have ih := up_look k d c
  unfold kdpLook upD dLook at *
  rw [List.map_cons, List.find?_cons, List.find?_cons, key_eq f hf p.1 k]
  cases eqT p.1 k
  ·exact ih
  ·rfl
theorem up_put (c : List (Tree × Int)) (k : Tree) (v : Int) : kdpPut (upD f c) (f k) v = upD f (dPut c k v) := by
 have h := up_has f hf c k
 unfold kdpHas dHas at h
 unfold kdpPut dPut
 rw [h]
 split
 ·unfold upD
  rw [List.map_map, List.map_map]
  refine List.map_congr_left fun p _ => ?_
  simp only [Function.comp_def, key_eq f hf p.1 k]
  split <;> rfl
 ·unfold upD; simp
end
theorem flat_key {s : Nat} (hs : s < 256) (w : List Nat) : ∀ t u : Tree, mk (flat s t ++ w) = mk (flat s u ++ w) → t = u := fun t u h =>
 flat_inj hs (List.append_cancel_right (mk_inj.mp h))
noncomputable def ordTextT (c less : List (Tree × Int)) (k : Tree) : List (Tree × Int) := (prunes k).foldl (fun less x => dPut less x (dLook less x 0 + dLook c k 0)) less
noncomputable def ordStepT (c : List (Tree × Int)) : List (Tree × Int) := (c.map (·.1)).foldl (ordTextT c) []
noncomputable def ordersT : Nat → List (Tree × Int) → List (Tree × Int)
 | 0, c => c
 | n + 1, c => ordStepT (ordersT n c)
noncomputable def tabCn (a : Nat) : Nat := [1, 1, 3, 12, 55, 273].getD a 0
theorem cn_tab (a : Nat) : cn a = tabCn a := by unfold cn tabCn; rw [cnts_5]
noncomputable def lone (c : List (Tree × Int)) (v : Int) : Bool := match c with
 | [(.leaf, u)] => u == v
 | _ => false
theorem lone_eq {c : List (Tree × Int)} {v : Int} (h : lone c v = true) : c = [(.leaf, v)] := by
 unfold lone at h
 split at h
 ·rw [beq_iff_eq] at h; rw [h]
 ·cases h
theorem spell_5 : (treesT 5 5).all (fun t => eqT (spellT 5 5 (rankT t).2.1) t) = true := by decide +kernel
theorem hook_5 : (treesT 5 5).all (fun t => decide (0 < (rankT t).2.2 ∧ (rankT t).2.2 ≤ 120 ∧ 120 % (rankT t).2.2 = 0 ∧ (rankT t).2.1 < 273)) = true := by decide +kernel
theorem ways_5 : (treesT 5 5).all (fun t => lone (ordersT 5 [(t, 1)]) ((120 / (rankT t).2.2 : Nat) : Int)) = true := by decide +kernel
end Mine
end
section
namespace Mine
theorem cutsL_eq : ∀ x : List Nat, cutsL x = (List.range (x.length - 2)).flatMap fun p => if escAt x p then [cutAt x p] else []
 | [] => rfl
 | c :: r => by
  have ih := cutsL_eq r
  unfold cutsL
  match r, ih with
  | [], _ => rfl
  | [a], _ => rfl
  | a :: b :: r', ih =>
   have e : (c :: a :: b :: r').length - 2 = (a :: b :: r').length - 2 + 1 := by simp
   rw [e, List.range_succ_eq_map, List.flatMap_cons, ih]
   congr 1
   ·rw [cutHd_3]
    have hesc : escAt (c :: a :: b :: r') 0 = (c == 61 && a != 61 && b != 61) := by
     unfold escAt
     simp
    by_cases h : c = 61 ∧ a ≠ 61 ∧ b ≠ 61
    ·rw [if_pos h, if_pos (by rw [hesc]; simp [h])]; rfl
    ·rw [if_neg h, if_neg (by rw [hesc]; intro hh; simp at hh; exact h ⟨hh.1.1, hh.1.2, hh.2⟩)]
   ·rw [List.map_flatMap, List.flatMap_map]
    congr 1
    funext p
    have h1 : escAt (c :: a :: b :: r') (p + 1) = escAt (a :: b :: r') p := by
     unfold escAt
     have : decide (p + 1 + 2 < (c :: a :: b :: r').length) = decide (p + 2 < (a :: b :: r').length) := by
      rw [Bool.eq_iff_iff]; simp
     rw [this]
     rfl
    rw [h1]
    split
    ·rfl
    ·rfl
theorem ordPlace_fold (n : Int) (x : List Nat) : ∀ (ps : List Nat) (less : List (Str × Int)), ps.foldl (ordPlace n x) less = (ps.flatMap fun p => if escAt x p then [cutAt x p] else []).foldl (fun less y => kdpPut less (mk y) (kdpLook less (mk y) 0 + n)) less
 | [], _ => rfl
 | p :: ps, less => by
  rw [List.foldl_cons, List.flatMap_cons, List.foldl_append, ordPlace_fold n x ps]
  congr 1
  unfold ordPlace
  split <;> rfl
section
variable {s : Nat} (hs : s < 256)
noncomputable def fT (s : Nat) (t : Tree) : Str := mk (flat s t)
include hs
theorem fT_inj : ∀ t u, fT s t = fT s u → t = u := fun t u h => flat_inj hs (mk_inj.mp h)
theorem fold_up (n : Int) : ∀ (L less : List _), (L.map (flat s)).foldl (fun less y => kdpPut less (mk y) (kdpLook less (mk y) 0 + n)) (upD (fT s) less) = upD (fT s) (L.foldl (fun less x => dPut less x (dLook less x 0 + n)) less)
 | [], _ => rfl
 | t :: L, less => by
  rw [List.map_cons, List.foldl_cons, List.foldl_cons]
  show (L.map (flat s)).foldl _ (kdpPut (upD (fT s) less) (fT s t) (kdpLook (upD (fT s) less) (fT s t) 0 + n)) = _
  rw [up_look (fT s) (fT_inj hs), up_put (fT s) (fT_inj hs), fold_up n L]
theorem ordText_up (c less : List (Tree × Int)) (t : Tree) : ordText (upD (fT s) c) (upD (fT s) less) (fT s t) = upD (fT s) (ordTextT c less t) := by
 unfold ordText ordTextT
 rw [up_look (fT s) (fT_inj hs)]
 show (List.range ((flat s t).length - 2)).foldl (ordPlace _ (flat s t)) _ = _
 rw [ordPlace_fold, ← cutsL_eq, cuts_tree t s hs, fold_up hs]
theorem foldText_up (c : List (Tree × Int)) : ∀ (ks : List Tree) (less : List (Tree × Int)), (ks.map (fT s)).foldl (ordText (upD (fT s) c)) (upD (fT s) less) = upD (fT s) (ks.foldl (ordTextT c) less)
 | [], _ => rfl
 | t :: ks, less => by
  rw [List.map_cons, List.foldl_cons, List.foldl_cons, ordText_up hs, foldText_up c ks]
theorem ordStep_up (c : List (Tree × Int)) : ordStep (upD (fT s) c) = upD (fT s) (ordStepT c) := by
 unfold ordStep ordStepT
 have e : (upD (fT s) c).map (·.1) = (c.map (·.1)).map (fT s) := by unfold upD; rw [List.map_map, List.map_map]; rfl
 rw [e]
 exact foldText_up hs c _ []
theorem orders_up (t : Tree) : ∀ n, ordersL n [(mk (flat s t), 1)] = upD (fT s) (ordersT n [(t, 1)])
 | 0 => rfl
 | n + 1 => by
  show ordStep (ordersL n _) = _
  rw [orders_up t n, ordStep_up hs]; rfl
end
theorem size_prune : ∀ (t u : Tree), u ∈ prunes t → size u + 1 = size t
 | .leaf, u, h => nomatch h
 | .node a b c, u, h => by
  unfold prunes at h
  split at h
  ·rename_i hl
   simp only [Bool.and_eq_true, isLeaf_iff] at hl
   obtain ⟨⟨rfl, rfl⟩, rfl⟩ := hl
   rw [List.mem_singleton.mp h]; rfl
  ·simp only [List.mem_append, List.mem_map] at h
   rcases h with ⟨x, hx, rfl⟩ | ⟨x, hx, rfl⟩ | ⟨x, hx, rfl⟩
   ·have := size_prune a x hx; simp only [size]; omega
   ·have := size_prune b x hx; simp only [size]; omega
   ·have := size_prune c x hx; simp only [size]; omega
theorem dPut_mem {c : List (Tree × Int)} {k : Tree} {v : Int} {p : Tree × Int} (h : p ∈ dPut c k v) : p.1 = k ∨ ∃ q ∈ c, p.1 = q.1 := by
 unfold dPut at h
 split at h
 ·obtain ⟨q, hq, rfl⟩ := List.mem_map.mp h
  split
  ·exact .inr ⟨q, hq, rfl⟩
  ·exact .inr ⟨q, hq, rfl⟩
 ·rcases List.mem_append.mp h with h | h
  ·exact .inr ⟨p, h, rfl⟩
  ·rw [List.mem_singleton.mp h]; exact .inl rfl
theorem foldT_size (n : Nat) (v : Int) : ∀ (L : List Tree) (less : List (Tree × Int)), (∀ u ∈ L, size u = n) → (∀ p ∈ less, size p.1 = n) → ∀ p ∈ L.foldl (fun less x => dPut less x (dLook less x 0 + v)) less, size p.1 = n
 | [], _, _, h => h
 | u :: L, less, hL, h => foldT_size n v L _ (fun x hx => hL x (List.mem_cons_of_mem _ hx)) fun p hp => by
  rcases dPut_mem hp with e | ⟨q, hq, e⟩
  ·rw [e]; exact hL u (List.mem_cons_self ..)
  ·rw [e]; exact h q hq
theorem stepT_size (n : Nat) (c : List (Tree × Int)) : ∀ (ks : List Tree) (less : List (Tree × Int)), (∀ u ∈ ks, size u = n + 1) → (∀ p ∈ less, size p.1 = n) → ∀ p ∈ ks.foldl (ordTextT c) less, size p.1 = n
 | [], _, _, h => h
 | u :: ks, less, hk, h => stepT_size n c ks _ (fun x hx => hk x (List.mem_cons_of_mem _ hx)) (foldT_size n _ _ _ (fun x hx => by
   have := size_prune u x hx
   have := hk u (List.mem_cons_self ..)
   omega) h)
theorem ordersT_size (t : Tree) : ∀ i, i ≤ size t → ∀ p ∈ ordersT i [(t, 1)], size p.1 = size t - i
 | 0, _, p, hp => by rw [List.mem_singleton.mp hp]; rfl
 | i + 1, hi, p, hp => by
  refine stepT_size (size t - (i + 1)) (ordersT i [(t, 1)]) _ [] (fun u hu => ?_) (fun _ h => nomatch h) p hp
  obtain ⟨q, hq, rfl⟩ := List.mem_map.mp hu
  have := ordersT_size t i (by omega) q hq
  omega
theorem ways_len : (treesT 5 5).all (fun t => (List.range 5).all fun i => decide ((ordersT i [(t, 1)]).length ≤ 10000)) = true := by decide +kernel
theorem ordOk_of {s : Nat} (hs : s < 256) {t : Tree} (ht : size t = 5) (i : Nat) (hi : i < 5) : OrdOk (ordersL i [(mk (flat s t), 1)]) := by
 rw [orders_up hs t i]
 refine ⟨?_, fun p hp => ?_⟩
 ·have h := List.all_eq_true.mp ways_len t (by have := mem_trees 5 t (by omega); rwa [ht] at this)
  have h2 := List.all_eq_true.mp h i (List.mem_range.mpr hi)
  unfold upD
  rw [List.length_map]
  exact of_decide_eq_true h2
 ·unfold upD at hp
  obtain ⟨q, hq, rfl⟩ := List.mem_map.mp hp
  have hsz := ordersT_size t i (by omega) q hq
  have hl := flat_len q.1 s
  have hne : q.1 ≠ .leaf := by intro h; rw [h] at hsz; simp only [size] at hsz; omega
  refine ⟨by show 3 ≤ (mk _).length; rw [mk_length]; omega, by show (mk _).length ≤ 1000; rw [mk_length]; omega, fun j hj => ?_⟩
  have hAL := flat_AL q.1 s hs (.inr hne)
  unfold escAt at hj
  simp only [Bool.and_eq_true, decide_eq_true_eq, bne_iff_ne, ne_eq] at hj
  obtain ⟨⟨⟨h1, -⟩, h3⟩, h4⟩ := hj
  have hx : ∀ k, k < (flat s q.1).length → (flat s q.1).getD k 0 ≠ 61 → isHex ((flat s q.1).getD k 0) = true := by
   intro k hk hn
   rw [getD_at _ _ _ hk] at hn ⊢
   have h5 := hAL _ (List.getElem_mem hk)
   unfold AL at h5
   unfold isHex
   simp at h5 ⊢
   omega
  exact ⟨hx _ (by have : j + 2 < (flat s q.1).length := h1; omega) h3, hx _ h1 h4⟩
theorem mem_5 {t : Tree} (ht : size t = 5) : t ∈ treesT 5 5 := by have := mem_trees 5 t (by omega); rwa [ht] at this
theorem spell_rank {t : Tree} (ht : size t = 5) : spellT 5 5 (rankT t).2.1 = t := (eqT_iff _ _).mp (List.all_eq_true.mp spell_5 t (mem_5 ht))
theorem hook_rank {t : Tree} (ht : size t = 5) : 0 < (rankT t).2.2 ∧ (rankT t).2.2 ≤ 120 ∧ 120 % (rankT t).2.2 = 0 ∧ (rankT t).2.1 < 273 := of_decide_eq_true (List.all_eq_true.mp hook_5 t (mem_5 ht))
theorem ways_rank {s : Nat} (hs : s < 256) {t : Tree} (ht : size t = 5) : ordersL 5 [(mk (flat s t), 1)] = [(mk [s], ((120 / (rankT t).2.2 : Nat) : Int))] := by
 rw [orders_up hs t 5, lone_eq (List.all_eq_true.mp ways_5 t (mem_5 ht))]
 rfl
end Mine
end
section
namespace Mine
noncomputable def grownT (l : List Tree) : List Tree := l.flatMap fun t => (List.range (1 + 2 * size t)).map (putT t)
noncomputable def tallyStep (st : List (Tree × Int) × List Tree) (g : Tree) : List (Tree × Int) × List Tree :=
 if dHas st.1 g then st else (dPut st.1 g (dLook st.1 (roundT g) 8 + 1), st.2 ++ [g])
noncomputable def tallyS : Nat → List (Tree × Int) × List (List Tree)
 | 0 => ([(.leaf, 0)], [[.leaf]])
 | i + 1 => ((grownT ((tallyS i).2.getLastD [])).foldl tallyStep ((tallyS i).1, []) |>.1, (tallyS i).2 ++ [((grownT ((tallyS i).2.getLastD [])).foldl tallyStep ((tallyS i).1, [])).2])
noncomputable def tallyV : List (List Nat) := (List.range 4).map fun r => (tallyS 3).2.map fun ts => (ts.filter fun t => decide (dLook (tallyS 3).1 t 0 ≤ (r : Int))).length
theorem tallyV_eq : tallyV = [[1, 0, 0, 0], [1, 1, 0, 0], [1, 1, 3, 3], [1, 1, 3, 12]] := by decide +kernel
end Mine
end
section
namespace Mine
noncomputable abbrev tup2 (x y : Value) : Obj := { cls := .type "tuple", data := .seq #[x, y] }
theorem bits_lt {x m : Nat} (h : x < 2 ^ m) : Builtin.Int.intBits ((x : Nat) : Int) ≤ m := intBits_le_iff.mpr (by simpa using h)
theorem fdiv_nat (x y : Nat) : ((x : Nat) : Int).fdiv ((y : Nat) : Int) = ((x / y : Nat) : Int) := by
 rw [Int.fdiv_eq_ediv_of_nonneg _ (Int.natCast_nonneg _)]; rfl
theorem fmod_nat (x y : Nat) : ((x : Nat) : Int).fmod ((y : Nat) : Int) = ((x % y : Nat) : Int) := by
 rw [Int.fmod_eq_emod_of_nonneg _ (Int.natCast_nonneg _)]; rfl
theorem log_lt {b : Nat} (h : b < 2 ^ 1000) : ((b : Nat) : Int).natAbs.log2 < 9000 := by
 rw [Int.natAbs_natCast]
 by_cases h0 : b = 0
 ·subst h0; decide
 ·exact (Nat.log2_lt h0).mpr (Nat.lt_of_lt_of_le h (Nat.pow_le_pow_right (by decide) (by decide)))
end Mine
section
set_option maxHeartbeats 8000000 in
theorem Mine.div2n_c (w : World) (x y n : Nat) (hb : 0 < y) (ha : x < 2 ^ 1000) (hb2 : y < 2 ^ 1000) (t u v : Tok) :
  Mine.Ctr w 64 5 50 [.int (x : Nat) t, .int (y : Nat) u, .int (n : Nat) v] (fun _ => True) (fun r tl => ∃ T t1 t2, r = .ref T ∧ tl = [(T, Mine.tup2 (.int ((x / y : Nat) : Int) t1) (.int ((x % y : Nat) : Int) t2))]) := by
 k_with_none
 k_with "storeName" => (k_here; (with_reducible show wpAny _ _ (storeName _ _ _) _ _ _); k_dflt (refine' Mine.storeF ?Fw21 ?Nw21 ?_ ?aw21 ?bw21; (case Fw21 => k_asm); (case Nw21 => k_asm); (case aw21 => exact Eq.refl ScopeKind.function); (case bw21 => exact Eq.refl (some NameKind.local)); k_whole; intro h7s m7s F7s N7s; (try k_sweep)))
 k_with "eval Name" => (k_here; (with_reducible show wpAny _ _ (eval (Expr.Name _ _) _) _ _ _); k_dflt (refine' nameX_L ?Fw22 ?vw22 ?_ ?aw22 ?bw22; (case Fw22 => k_asm); (case aw22 => exact Eq.refl ScopeKind.function); (case bw22 => exact Eq.refl (some NameKind.local)); (case vw22 => exact Eq.refl (some _)); k_whole))
 k_with "call builtin:divmod" => (k_here; (with_reducible show wpAny _ _ (call (Value.builtin _) [Value.int _ _, Value.int _ _]) _ _ _); k_dflt (refine' divmod_N ?k1w23 ?k2w23 ?k3w23 ?_ ?k4w23; (case k1w23 => k_asm); (case k2w23 => k_asm); (case k3w23 => omega); (case k4w23 => exact Or.inl (by assumption)); k_whole); intro h' F' N')
 k_with "binaryOp BitAnd int int" => (exfalso; omega)
 have h1 : Builtin.Int.intBits (x : Int) ≤ 1000 := Mine.bits_lt ha
 have h2 : Builtin.divisionGoesByPylong (x : Int) (y : Int) = false := PyProof.noPylong_of_log2 (Mine.log_lt hb2)
 clear ha hb2
 (unfold Mine.Ctr; k_fill; intro p loose mean mg mb dp un gd cn cs a ccd cl outer A₀ base h₀ L m news s Q E B F X N T hk hpre hd hu hret; refine wpAny_call ?_; k_dflt (refine' code_def (binds := [(Str.ofString "a", Value.int (x : Nat) t), (Str.ofString "b", Value.int (y : Nat) u), (Str.ofString "n", Value.int (n : Nat) v)]) ?k1 ?k2 ?k3 ?k4 ?k5 ?kA ?kF ?kK ?k6 ?k7 ?k8 ?k9 ?kB ?_ ?c2 ?c3 ?c4 ?c5; (case kA => exact rfl); (case kF => exact rfl); (case kK => assumption); (case k1 => k_asm); (case k2 => k_asm); (case k3 => k_asm); (case k4 => k_asm); (case k5 => k_asm); (case k6 => k_is); (case k7 => k_is); (case k8 => ktr_room); (case k9 => first | exact BindsTo.of_eq (by kernel_rfl) | exact binds_K (by k_in) rfl (by k_is) rfl rfl rfl); (case c5 => decide); (case kB => exact locs rfl); (case c2 => exact rfl); (case c3 => exact rfl); (case c4 => exact rfl); k_whole; intro g' L' h' FG' F' N' B' X' T'; (try dsimp only); walk_at "f"))
 (replace F' : Fr g' L' h' (kstB (fun _ => none) [(Str.ofString "n", Value.int (n : Nat) v), (Str.ofString "b", Value.int (y : Nat) u), (Str.ofString "a", Value.int (x : Nat) t)]) := Mine.fr_args F' rfl; dsimp only [kstB] at F'; simp only [List.length_cons, List.length_nil, Nat.zero_add]); (refine Mine.foldA ?_; intro ak)
 walk_at "~"
 with_reducible rename News h₀ L _ _ => hN9
 with_reducible rename Fr h₀ L _ _ => hF9
 rw [Mine.fdiv_nat, Mine.fmod_nat] at hN9
 exact hret _ [(_, Mine.tup2 _ _)] _ _ ⟨_, _, _, rfl, rfl⟩ hF9 hN9
end
end
section
namespace Mine
theorem fr_same {h₀ h : Heap} {L : Addr} {m m' : Str → Option Value} (F : Fr h₀ L h m) (e : m = m') : Fr h₀ L h m' := e ▸ F
noncomputable def TabE (P : Addr) (line col : Nat) (qual : Str) (tl : List (Addr × Obj)) : Prop :=
 tl = [(P, tabObj #[])] ∨ ∃ c' oc vs t, tl = [(P, tabObj #[rawInt line, rawInt col, .ref c']), (c', oc)] ∧ 80 < c' ∧ oc.data = .fields vs ∧ vs[1]? = some (.str qual t)
section
variable {M : Model} {A : Around} {E : Value → Shared → Prop} {s : Shared} {h₀ : Heap} {L a c P : Addr} {m mg mb : Str → Option Value} {cn : Str} {cs : Scope} {ccd : Value} {cl : List (Str × Addr)} {rest tl : List (Addr × Obj)}
 {p : Program} {loose : List Str} {mean : ExcName → Option Value} {name qual : Str} {params : Arguments} {body : List Stmt} {scope : Scope} {pos : Pos} {firstLine : Nat} {clos : List (Str × Addr)}
theorem nest_any {Q : Value → Shared → Prop} {line col : Nat} (F : Fr h₀ L s.heap m) (N : News h₀ L s.heap (tl ++ rest)) (T : Top p loose mean mg mb h₀) (C : CodeHd h₀ c P) (hcd : ccd = .ref c) (hT : TabE P line col qual tl) (hl : line = pos.line) (hc : col = pos.col) (h80 : ∃ o, ((80 : Addr), o) ∈ tl ++ rest) (off : ∀ q ∈ rest, q.1 ≠ P)
  (hcl : closureFor scope (envX cn cs L a ccd cl) = pure clos)
  (h : ∀ f c' oc vs t ctv doc oF h' tk, oF = fnMade name qual params body scope clos doc ((mg "__name__").getD .none) c' ctv → Fr h₀ L h' m →
   News h₀ L h' ((f, oF) :: (P, tabObj #[rawInt line, rawInt col, .ref c']) :: (c', oc) :: rest) → 80 < c' → oc.data = .fields vs → vs[1]? = some (.str qual t) → (∀ q ∈ rest, q.1 < f) → Q (.ref f) { s with heap := h', toks := tk }) :
  wpAny M A (makeFunction name qual params (.stmts body) scope (envX cn cs L a ccd cl) [] [] [] pos firstLine) Q E s := by
 subst hl hc
 rcases hT with rfl | ⟨c', oc, vs, t, rfl, h8, hd, hv⟩
 ·refine nest_K (ps := #[]) (g := fun o => (P, o) :: rest) F N T C hcd (UpdF.head off) trivial rfl hcl fun f c' oc vs t ctv doc h' tk F' N' hd hv l1 l2 => ?_
  refine h f c' oc vs t ctv doc _ h' tk rfl F' (news_re N' ?_) (let ⟨_, h⟩ := h80; l1 _ h) hd hv (fun q hq => Nat.lt_trans (l1 q (List.mem_append.mpr (.inr hq))) l2)
  intro q hq
  simp only [List.mem_cons] at hq ⊢
  rcases hq with h | h | h | h
  ·exact .inl h
  ·exact .inr (.inr (.inl h))
  ·exact .inr (.inl h)
  ·exact .inr (.inr (.inr h))
 ·refine nestHit_K (c' := c') F N T C hcd (List.mem_cons_self ..) (by simp [TriplesOk, rawInt]) (by simp [codeAmong, rawInt]) hcl fun f ctv doc h' tk F' N' l1 => ?_
  exact h f c' oc vs t ctv doc _ h' tk rfl F' (news_re N' (fun q hq => hq)) h8 hd hv (fun q hq => l1 q (List.mem_append.mpr (.inr hq)))
end
theorem news_up5 {h₀ h : Heap} {L : Addr} {a b c d e : Addr × Obj} {t r : List (Addr × Obj)} (N : News h₀ L h (a :: b :: c :: d :: e :: (t ++ r))) : News h₀ L h (t ++ (a :: c :: d :: e :: r)) :=
 news_re N (by walk_at "n")
theorem ne_data {h₀ h : Heap} {L a b : Addr} {oa ob : Obj} {l : List (Addr × Obj)} (N : News h₀ L h l) (ha : (a, oa) ∈ l) (hb : (b, ob) ∈ l) (hd : oa.data ≠ ob.data) : a ≠ b := fun e => by
 have e1 := (N _ ha).1
 have e2 := (N _ hb).1
 subst e
 exact hd (congrArg Obj.data (Option.some.inj (e1.symm.trans e2)))
theorem TabE.off {P line col : Nat} {qual : Str} {tl : List (Addr × Obj)} (h : TabE P line col qual tl) {k : Nat} (h1 : k ≠ P) (h2 : k ≤ 80) : ∀ q ∈ tl, q.1 ≠ k := by
 rcases h with rfl | ⟨c', oc, vs, t, rfl, h8, _, _⟩
 ·intro q hq; rw [List.mem_singleton.mp hq]; exact Ne.symm h1
 ·intro q hq
  rcases List.mem_cons.mp hq with rfl | hq
  ·exact Ne.symm h1
  ·rw [List.mem_singleton.mp hq]; exact Ne.symm (Nat.ne_of_lt (Nat.lt_of_le_of_lt h2 h8))
theorem TabE.mem {P line col : Nat} {qual : Str} {tl : List (Addr × Obj)} (h : TabE P line col qual tl) : ∃ o, (P, o) ∈ tl := by
 rcases h with rfl | ⟨c', oc, vs, t, rfl, _⟩
 ·exact ⟨_, List.mem_cons_self ..⟩
 ·exact ⟨_, List.mem_cons_self ..⟩
theorem news_nest {h₀ h : Heap} {L : Addr} {a b c d e f g : Addr × Obj} {r R : List (Addr × Obj)} (N : News h₀ L h (a :: b :: c :: d :: e :: f :: g :: r)) (hR : R = b :: c :: r) : News h₀ L h (d :: a :: e :: f :: g :: R) :=
 news_re N (by subst hR; walk_at "n")
theorem r9_off {h₀ h : Heap} {L b P c' : Addr} {ob oc : Obj} {ps vs : Array Value} {l r R : List (Addr × Obj)} (N : News h₀ L h l) (hR : R = (P, tabObj ps) :: (c', oc) :: r) (hs : ∀ q ∈ R, q ∈ l) (hb : (b, ob) ∈ l) (hf : ∀ ws, ob.data ≠ .fields ws) (hd : oc.data = .fields vs) (hr : ∀ q ∈ r, q.1 ≠ b) : ∀ q ∈ R, q.1 ≠ b := by
 subst hR
 refine List.forall_mem_cons.mpr ⟨?_, List.forall_mem_cons.mpr ⟨?_, hr⟩⟩
 ·exact ne_data N (hs _ (List.mem_cons_self ..)) hb (fun e => hf _ e.symm)
 ·exact ne_data N (hs _ (List.mem_cons_of_mem _ (List.mem_cons_self ..))) hb (fun e => hf vs (by rw [← e, hd]))
theorem fnAt_of {h₀ h : Heap} {L f : Addr} {oF : Obj} {l : List (Addr × Obj)} {name qual : Str} {params : Arguments} {body : List Stmt} {scope : Scope} {clos : List (Str × Addr)} {doc pm : Value} {c' : Addr} {ctv : Value} (N : News h₀ L h l) (hm : (f, oF) ∈ l) (e : oF = fnMade name qual params body scope clos doc pm c' ctv) : FnAt f h := FnAt.of N (e ▸ hm)
theorem pack5 {h₀ h : Heap} {L D f i a n : Addr} {oD oF oi oa on : Obj} {R : List (Addr × Obj)} {G : Prop} (N : News h₀ L h ((D, oD) :: (f, oF) :: (i, oi) :: (a, oa) :: (n, on) :: R))
  (k : ∀ oi' oa' on', oi' = oi → oa' = oa → on' = on → News h₀ L h ((D, oD) :: (f, oF) :: (i, oi') :: (a, oa') :: (n, on') :: R) → G) : G := k _ _ _ rfl rfl rfl N
noncomputable def Digs (n lo k x : Nat) (ns ns' : List Int) : Prop :=
 ns'.length = ns.length ∧ (∀ i, i < lo ∨ lo + k ≤ i → ns'[i]? = ns[i]?) ∧ ∀ i, i < k → ns'[lo + i]? = some ((x / 2 ^ (n * i) % 2 ^ n : Nat) : Int)
noncomputable abbrev InCtr (w : World) (f ci ca cn D c' : Addr) (oF oi oa on oc : Obj) (n : Nat) (k : Nat) : Prop :=
 ∀ (p : Program) (loose : List Str) (mean : ExcName → Option Value) (mg mb : Str → Option Value) (dp un : Nat) (gd : Option (List Code)) (cnm : Str) (cs : Scope) (a : Addr) (ccd : Value) (cl : List (Str × Addr)) (outer : List Env) (A₀ : Around) (base h₀ : Heap) (L : Addr) (m : Str → Option Value) (R : List (Addr × Obj)) (s : Shared) (Q E : Value → Shared → Prop)
  (vs : List Value) (ns : List Int) (x lo : Nat) (t1 t2 t3 : Tok),
  Below A₀ base outer h₀ → Fr h₀ L s.heap m → (Mine.heapK w.params).In h₀ → News h₀ L s.heap ((D, listOf vs.toArray 0) :: (f, oF) :: (ci, oi) :: (ca, oa) :: (cn, on) :: R) → (c', oc) ∈ R → (∀ q ∈ R, q.1 ≠ D) → Top p loose mean mg mb h₀ → cs.kind = .function → dp + (k + 5) < recursionLimit → un + (k + 5) * 20 < cLine →
  IntsAre vs ns → lo + k ≤ ns.length → ns.length ≤ 1000 → x < 2 ^ (n * k) →
  (∀ vs' ns' h' tk', IntsAre vs' ns' → Digs n lo k x ns ns' → Fr h₀ L h' m → News h₀ L h' ((D, listOf vs'.toArray 0) :: (f, oF) :: (ci, oi) :: (ca, oa) :: (cn, on) :: R) → Q .none { s with heap := h', toks := tk' }) →
  wpAny (model PySem.Challenge.rw_ku0016_01.row.prog w) (ktrTop dp un gd cnm cs L a ccd cl outer) (call (.ref f) [.int (x : Nat) t1, .int (lo : Nat) t2, .int (lo + k : Nat) t3]) Q E s
theorem Digs.one {n lo x : Nat} {ns : List Int} (h : lo < ns.length) (hx : x < 2 ^ n) : Digs n lo 1 x ns (ns.set lo (x : Int)) := by
 refine ⟨by simp, fun i hi => ?_, fun i hi => ?_⟩
 ·rw [List.getElem?_set_ne (by omega)]
 ·have : i = 0 := by omega
  subst this
  rw [Nat.add_zero, List.getElem?_set_self h]
  simp [Nat.mod_eq_of_lt hx]
theorem Digs.cut {n lo j k x : Nat} {ns ns1 ns2 : List Int} (hj : j ≤ k) (h1 : Digs n lo j (x % 2 ^ (j * n)) ns ns1) (h2 : Digs n (lo + j) (k - j) (x / 2 ^ (j * n)) ns1 ns2) : Digs n lo k x ns ns2 := by
 ((first | refine Mine.exE h1 ?_ | refine Mine.anE h1 ?_); intro a1 zo186; clear h1; (first | refine Mine.exE zo186 ?_ | refine Mine.anE zo186 ?_); intro a2 a3; clear zo186)
 ((first | refine Mine.exE h2 ?_ | refine Mine.anE h2 ?_); intro b1 zo187; clear h2; (first | refine Mine.exE zo187 ?_ | refine Mine.anE zo187 ?_); intro b2 b3; clear zo187)
 refine ⟨b1.trans a1, fun i hi => ?_, fun i hi => ?_⟩
 ·rw [b2 i (by omega), a2 i (by omega)]
 ·by_cases hij : i < j
  ·rw [b2 _ (by omega), a3 i hij]
   congr 2
   have e1 : n * i + n ≤ j * n := by
    rw [← Nat.mul_succ, Nat.mul_comm]; exact Nat.mul_le_mul_right _ hij
   rw [← Nat.mod_mul_right_div_self, ← Nat.pow_add, Nat.mod_mod_of_dvd _ (Nat.pow_dvd_pow 2 e1), Nat.pow_add, Nat.mod_mul_right_div_self]
  ·have e : lo + i = lo + j + (i - j) := by omega
   rw [e, b3 (i - j) (by omega)]
   congr 2
   rw [Nat.div_div_eq_div_mul, ← Nat.pow_add]
   have e2 : j * n + n * (i - j) = n * i := by rw [Nat.mul_comm j n, ← Nat.mul_add]; congr 1; omega
   rw [e2]
theorem and_hi (x s : Nat) : x &&& (x / 2 ^ s * 2 ^ s) = x / 2 ^ s * 2 ^ s := by
 apply Nat.eq_of_testBit_eq
 intro i
 rw [Nat.testBit_and, Nat.testBit_mul_two_pow, Nat.testBit_div_two_pow]
 by_cases h : s ≤ i
 ·rw [show i - s + s = i by omega]; simp [h]
 ·simp [h]
theorem xor_hi (x s : Nat) : Builtin.bitXor (x : Int) ((x / 2 ^ s * 2 ^ s : Nat) : Int) = ((x % 2 ^ s : Nat) : Int) := by
 rw [bitXor_and, bitAnd_pp (Int.natCast_nonneg _) (Int.natCast_nonneg _), Int.toNat_natCast, Int.toNat_natCast, and_hi]
 have := Nat.div_add_mod x (2 ^ s)
 rw [Nat.mul_comm] at this
 omega
theorem fdiv_pow (x s : Nat) : ((x : Nat) : Int).fdiv (2 ^ (((s : Nat) : Int)).toNat) = ((x / 2 ^ s : Nat) : Int) := by
 rw [Int.toNat_natCast, ← fdiv_nat]; congr 1
theorem mul_pow_nat (x s : Nat) : ((x : Nat) : Int) * 2 ^ (((s : Nat) : Int)).toNat = ((x * 2 ^ s : Nat) : Int) := by
 rw [Int.toNat_natCast]; simp
theorem mid_nat (lo k : Nat) : ((lo : Int) + ((lo + k : Nat) : Int)).fdiv (2 ^ (1 : Int).toNat) = ((lo + k / 2 : Nat) : Int) := by
 have e : ((lo : Int) + ((lo + k : Nat) : Int)) = ((lo + (lo + k) : Nat) : Int) := by omega
 have := fdiv_pow (lo + (lo + k)) 1
 rw [e]
 rw [show (2 : Int) ^ (1 : Int).toNat = 2 ^ (((1 : Nat) : Int)).toNat from rfl, this]
 congr 1
 omega
theorem sh_nat (lo j n : Nat) : (((lo + j : Nat) : Int) - (lo : Int)) * (n : Int) = ((j * n : Nat) : Int) := by
 rw [show (((lo + j : Nat) : Int) - (lo : Int)) = (j : Int) by omega]; simp
noncomputable def digitsL (x n : Nat) : List Int := (List.range ((Builtin.Int.intBits (x : Int) + n - 1) / n)).map fun i => ((x / 2 ^ (n * i) % 2 ^ n : Nat) : Int)
theorem ints_rep (t : Tok) : ∀ k : Nat, IntsAre (List.replicate k (Value.int 0 t)) (List.replicate k 0)
 | 0 => .nil
 | k + 1 => .cons 0 t (ints_rep t k)
theorem Digs.whole {n k x : Nat} {ns ns' : List Int} (h : Digs n 0 k x ns ns') (hl : ns.length = k) : ns' = (List.range k).map fun i => ((x / 2 ^ (n * i) % 2 ^ n : Nat) : Int) := by
 ((first | refine Mine.exE h ?_ | refine Mine.anE h ?_); intro h1 zo188; clear h; (first | refine Mine.exE zo188 ?_ | refine Mine.anE zo188 ?_); intro zo189 h3; clear zo188)
 apply List.ext_getElem?
 intro i
 by_cases hi : i < k
 ·have := h3 i hi
  rw [Nat.zero_add] at this
  rw [this, List.getElem?_map, List.getElem?_range hi]; rfl
 ·rw [List.getElem?_eq_none (by omega), List.getElem?_eq_none (by simp; omega)]
theorem ceil_le {b n : Nat} (hn : 0 < n) : b ≤ n * ((b + n - 1) / n) := by
 have h1 := Nat.div_add_mod (b + n - 1) n
 have h2 := Nat.mod_lt (b + n - 1) hn
 omega
theorem bits_pos {x : Nat} (h : x ≠ 0) : 1 ≤ Builtin.Int.intBits (x : Int) := by
 have h1 := Nat.lt_irrefl x
 by_cases hb : Builtin.Int.intBits (x : Int) ≤ 0
 ·have := intBits_le_iff.mp hb
  rw [Int.natAbs_natCast] at this
  omega
 ·omega
theorem lt_bits (x : Nat) : x < 2 ^ Builtin.Int.intBits (x : Int) := by
 have := intBits_le_iff.mp (Nat.le_refl (Builtin.Int.intBits (x : Int)))
 rwa [Int.natAbs_natCast] at this
theorem news_up4 {h₀ h : Heap} {L : Addr} {a b c : Addr × Obj} {t u r : List (Addr × Obj)} (N : News h₀ L h (a :: b :: c :: (t ++ (u ++ r)))) : News h₀ L h (u ++ (a :: b :: c :: (t ++ r))) :=
 news_re N (by walk_at "n")
theorem news_nest4 {h₀ h : Heap} {L : Addr} {a b c d e f : Addr × Obj} {r R : List (Addr × Obj)} (N : News h₀ L h (a :: b :: c :: d :: e :: f :: r)) (hR : R = b :: c :: r) : News h₀ L h (a :: d :: e :: f :: R) :=
 news_re N (by subst hR; walk_at "n")
theorem pack4 {h₀ h : Heap} {L f i a n : Addr} {oF oi oa on : Obj} {R : List (Addr × Obj)} {G : Prop} (N : News h₀ L h ((f, oF) :: (i, oi) :: (a, oa) :: (n, on) :: R))
  (k : ∀ oi' oa' on', oi' = oi → oa' = oa → on' = on → News h₀ L h ((f, oF) :: (i, oi') :: (a, oa') :: (n, on') :: R) → G) : G := k _ _ _ rfl rfl rfl N
noncomputable def valN (n : Nat) : List Nat → Nat
 | [] => 0
 | d :: r => d + 2 ^ n * valN n r
theorem valN_app (n : Nat) : ∀ a b : List Nat, valN n (a ++ b) = valN n a + 2 ^ (n * a.length) * valN n b
 | [], b => by simp [valN]
 | d :: a, b => by
  show d + 2 ^ n * valN n (a ++ b) = d + 2 ^ n * valN n a + 2 ^ (n * (a.length + 1)) * valN n b
  rw [valN_app n a b, Nat.mul_add, Nat.mul_succ, Nat.pow_add, Nat.mul_comm (2 ^ (n * a.length)) (2 ^ n), Nat.mul_assoc, Nat.add_assoc]
theorem valN_lt (n : Nat) : ∀ a : List Nat, (∀ d ∈ a, d < 2 ^ n) → valN n a < 2 ^ (n * a.length)
 | [], _ => by simp [valN]
 | d :: a, h => by
  have ih := valN_lt n a fun x hx => h x (List.mem_cons_of_mem _ hx)
  have hd := h d (List.mem_cons_self ..)
  show d + 2 ^ n * valN n a < 2 ^ (n * (a.length + 1))
  rw [Nat.mul_succ, Nat.pow_add, Nat.mul_comm (2 ^ (n * a.length)) (2 ^ n)]
  calc d + 2 ^ n * valN n a < 2 ^ n + 2 ^ n * valN n a := by omega
   _ = 2 ^ n * (valN n a + 1) := by rw [Nat.mul_succ]; omega
   _ ≤ 2 ^ n * 2 ^ (n * a.length) := Nat.mul_le_mul_left _ ih
theorem take_split {α : Type} (l : List α) (lo j k : Nat) (h : j ≤ k) : (l.drop lo).take k = (l.drop lo).take j ++ (l.drop (lo + j)).take (k - j) := by
 have : k = j + (k - j) := by omega
 rw [this, List.take_add, List.drop_drop]
 congr 2
 omega
theorem valN_cut (n : Nat) (ds : List Nat) (lo j k : Nat) (h : j ≤ k) (hk : lo + k ≤ ds.length) : valN n ((ds.drop lo).take k) = valN n ((ds.drop (lo + j)).take (k - j)) * 2 ^ (j * n) + valN n ((ds.drop lo).take j) := by
 rw [take_split ds lo j k h, valN_app, List.length_take, List.length_drop, Nat.min_eq_left (by omega), Nat.mul_comm n j, Nat.mul_comm (2 ^ (j * n)), Nat.add_comm]
noncomputable abbrev In2 (w : World) (f ci ca cn D c' : Addr) (oF oi oa on oc : Obj) (vs : List Value) (nn : Nat) (ds : List Nat) (n : Nat) (k : Nat) : Prop :=
 ∀ (p : Program) (loose : List Str) (mean : ExcName → Option Value) (mg mb : Str → Option Value) (dp un : Nat) (gd : Option (List Code)) (cnm : Str) (cs : Scope) (a : Addr) (ccd : Value) (cl : List (Str × Addr)) (outer : List Env) (A₀ : Around) (base h₀ : Heap) (L : Addr) (m : Str → Option Value) (R : List (Addr × Obj)) (s : Shared) (Q E : Value → Shared → Prop)
  (lo : Nat) (t2 t3 : Tok),
  Below A₀ base outer h₀ → Fr h₀ L s.heap m → (Mine.heapK w.params).In h₀ → News h₀ L s.heap ((f, oF) :: (ci, oi) :: (ca, oa) :: (cn, on) :: R) → (c', oc) ∈ R → (D, listOf vs.toArray nn) ∈ R → Top p loose mean mg mb h₀ → cs.kind = .function → dp + (k + 5) < recursionLimit → un + (k + 5) * 20 < cLine →
  lo + k ≤ ds.length →
  (∀ t h' tk', Fr h₀ L h' m → News h₀ L h' ((f, oF) :: (ci, oi) :: (ca, oa) :: (cn, on) :: R) → Q (.int (valN n ((ds.drop lo).take k) : Nat) t) { s with heap := h', toks := tk' }) →
  wpAny (model PySem.Challenge.rw_ku0016_01.row.prog w) (ktrTop dp un gd cnm cs L a ccd cl outer) (call (.ref f) [.int (lo : Nat) t2, .int (lo + k : Nat) t3]) Q E s
theorem tab_off {h₀ h : Heap} {L P : Addr} {vs : Array Value} {l : List (Addr × Obj)} (N : News h₀ L h l) (hP : (P, tabObj vs) ∈ l) {q : Addr × Obj} (hq : q ∈ l) (hc : q.2.cls ≠ .none ∨ ∀ ws, q.2.data ≠ .fields ws) : q.1 ≠ P := fun e => by
 have e1 := (N q hq).1
 have e2 := (N _ hP).1
 rw [e] at e1; rw [e1] at e2
 have e3 : q.2 = tabObj vs := Option.some.inj e2
 rcases hc with h | h
 ·exact h (by rw [e3])
 ·exact h vs (by rw [e3])
noncomputable abbrev TabI (tl : List (Addr × Obj)) : Prop := TabE 73 85 4 (Str.ofString "_int2digits.<locals>.inner") tl
noncomputable abbrev TabD (tl : List (Addr × Obj)) : Prop := TabE 80 100 4 (Str.ofString "_digits2int.<locals>.inner") tl
noncomputable abbrev CtrL (w : World) (f : Addr) (d u : Nat) (vs : List Value) (Pre : List (Addr × Obj) → Prop) (Post : Value → List (Addr × Obj) → Prop) : Prop :=
 ∀ (p : Program) (loose : List Str) (mean : ExcName → Option Value) (mg mb : Str → Option Value) (dp un : Nat) (gd : Option (List Code)) (cn : Str) (cs : Scope) (a : Addr) (ccd : Value) (cl : List (Str × Addr)) (outer : List Env) (A₀ : Around) (base h₀ : Heap) (L : Addr) (m : Str → Option Value) (tI tD news : List (Addr × Obj)) (s : Shared) (Q E : Value → Shared → Prop),
  Below A₀ base outer h₀ → Fr h₀ L s.heap m → (Mine.heapK w.params).In h₀ → News h₀ L s.heap (tI ++ (tD ++ news)) → TabI tI → TabD tD → (∀ q ∈ news, q.1 ≠ 73 ∧ q.1 ≠ 80) → Pre news → Top p loose mean mg mb h₀ → cs.kind = .function → dp + d < recursionLimit → un + u < cLine →
  (∀ v tl tI' tD' h' tk', Post v tl → TabI tI' → TabD tD' → (∀ q ∈ tl, q.1 ≠ 73 ∧ q.1 ≠ 80) → Fr h₀ L h' m → News h₀ L h' (tl ++ (tI' ++ (tD' ++ news))) → Q v { s with heap := h', toks := tk' }) →
  wpAny (model PySem.Challenge.rw_ku0016_01.row.prog w) (ktrTop dp un gd cn cs L a ccd cl outer) (call (.ref f) vs) Q E s
noncomputable abbrev CtrT (w : World) (f : Addr) (d u : Nat) (vs : List Value) (Post : Value → List (Addr × Obj) → Prop) : Prop := CtrL w f d u vs (fun _ => True) Post
theorem cdI (w : World) {h : Heap} (X : (Mine.heapK w.params).In h) : CodeHd h 77 73 := codeHd_of_K X (by kernel_rfl)
theorem cdD (w : World) {h : Heap} (X : (Mine.heapK w.params).In h) : CodeHd h 84 80 := codeHd_of_K X (by kernel_rfl)
end Mine
end
section
section
set_option maxHeartbeats 8000000 in
theorem Mine.i2d_c (w : World) (x n : Nat) (hn : 0 < n) (hn2 : n ≤ 1000) (hx : Builtin.Int.intBits (x : Int) ≤ 200) (t u : Tok) :
  Mine.CtrT w 78 300 5000 [.int (x : Nat) t, .int (n : Nat) u] (fun r tl => ∃ D vs, r = .ref D ∧ tl = [(D, listOf vs.toArray 0)] ∧ IntsAre vs (Mine.digitsL x n)) := by
 k_with_none
 k_with "storeName" => (k_here; (with_reducible show wpAny _ _ (storeName _ _ _) _ _ _); k_dflt (refine' Mine.storeF ?Fw25 ?Nw25 ?_ ?aw25 ?bw25; (case Fw25 => k_asm); (case Nw25 => k_asm); (case aw25 => exact Eq.refl ScopeKind.function); (case bw25 => exact Eq.refl (some NameKind.local)); k_whole; intro h7s m7s F7s N7s; (try k_sweep)))
 k_with "eval Name" => (k_here; (with_reducible show wpAny _ _ (eval (Expr.Name _ _) _) _ _ _); k_dflt (refine' nameX_L ?Fw26 ?vw26 ?_ ?aw26 ?bw26; (case Fw26 => k_asm); (case aw26 => exact Eq.refl ScopeKind.function); (case bw26 => exact Eq.refl (some NameKind.local)); (case vw26 => exact Eq.refl (some _)); k_whole))
 k_with "binaryOp Mult ref int" => (k_here; refine Mine.stop ?_)
 k_with "exec FunctionDef" => (k_here; refine Mine.stop ?_)
 k_with "call ref" => (k_here; refine Mine.stop ?_)
 k_with "callWith ref" => (k_here; k_dflt (refine' callWith_F ?k1w30 ?_; (case k1w30 => exact Mine.fnAt_of (by k_asm) (by k_mem) (by assumption)); k_whole))
 k_with "FnAt" => (k_dflt (exact Mine.fnAt_of (by k_asm) (by k_mem) (by assumption)))
 k_with "call builtin:len" => (k_here; (with_reducible show wpAny _ _ (call (Value.builtin "len") [Value.ref _]) _ _ _); k_dflt (refine' len_list ?k1w32 ?k2w32 ?_; (case k1w32 => exact News.isList (by k_asm) (by k_mem)); (case k2w32 => (simp only [List.size_toArray, List.length_replicate]; omega)); k_whole); simp only [List.size_toArray, List.length_replicate])
 k_with "binaryOp RShift int int" => first | (exfalso; omega) | (k_here; (try rw [hsh]); k_dflt (refine' rshift_int ?k1w33 ?_; (case k1w33 => first | decide | exact Int.natCast_nonneg _); k_whole); simp only [hmid, hup])
 k_with "binaryOp LShift int int" => (k_here; (try rw [hsh]); k_dflt (refine' lshift_int ?k1w34 ?k2w34 ?_; (case k1w34 => exact Int.natCast_nonneg _); (case k2w34 => exact hsz); k_whole); simp only [hsl])
 k_with "binaryOp BitXor int int" => (k_here; k_dflt (refine' xor_int ?_; k_whole); simp only [hxor])
 have hcount : ((Builtin.Int.intBits (x : Int) : Int) + (n : Int) - 1).fdiv (n : Int) = (((Builtin.Int.intBits (x : Int) + n - 1) / n : Nat) : Int) := by
  rw [show ((Builtin.Int.intBits (x : Int) : Int) + (n : Int) - 1) = ((Builtin.Int.intBits (x : Int) + n - 1 : Nat) : Int) by omega, Mine.fdiv_nat]
 have hc200 : (Builtin.Int.intBits (x : Int) + n - 1) / n ≤ 200 := by
  refine Nat.div_le_of_le_mul ?_
  have : n * 200 = 199 * n + n := by omega
  have : 1 * 199 ≤ n * 199 := Nat.mul_le_mul_right _ hn
  omega
 ((try unfold Mine.CtrT); unfold Mine.CtrL; k_fill; intro p loose mean mg mb dp un gd cn cs a ccd cl outer A₀ base h₀ L m tI tD news0 s Q E B F X N hTI hTD hoff hpre T hk hd hu hret; (refine Mine.nameE (a := tI ++ (tD ++ news0)) ?_; intro news hnews); rw [← hnews] at N; refine wpAny_call ?_; k_dflt (refine' code_defC (binds := [(Str.ofString "a", Value.int (x : Nat) t), (Str.ofString "n", Value.int (n : Nat) u)]) ?k1 ?k2 ?k3 ?k4 ?k5 ?kA ?kF ?kK ?k6 ?k7 ?k8 ?k9 ?kB ?kD ?_ ?c2 ?c3 ?c4; (case kA => exact rfl); (case kF => exact rfl); (case kK => assumption); (case k1 => k_asm); (case k2 => k_asm); (case k3 => k_asm); (case k4 => k_asm); (case k5 => k_asm); (case k6 => k_is); (case k7 => k_is); (case k8 => ktr_room); (case k9 => first | exact BindsTo.of_eq (by kernel_rfl) | exact binds_K (by k_in) rfl (by k_is) rfl rfl rfl); (case kB => exact rfl); (case kD => decide +kernel); (case c2 => exact rfl); (case c3 => exact rfl); (case c4 => exact rfl); k_whole; intro g' L' h' tk' cells' FG' F' N' Y' B' X' T' l1; k_cells Y'; (try dsimp only [List.cons_append, List.nil_append] at N'); (try dsimp only); walk_at "f"))
 (replace F' : Fr g' L' h' (kstB (fun _ => none) [(Str.ofString "a", Value.int (x : Nat) t)]) := Mine.fr_same F' (by kernel_rfl))
 dsimp only [kstB] at F'
 (refine Mine.foldA ?_; intro ak)
 have o1 : ∀ p ∈ news, p.1 ≠ L' + 1 := fun p hp => Nat.ne_of_lt (Nat.lt_succ_of_lt (l1 p hp))
 have o2 : ∀ p ∈ news, p.1 ≠ L' + 1 + 1 := fun p hp => Nat.ne_of_lt (Nat.lt_succ_of_lt (Nat.lt_succ_of_lt (l1 p hp)))
 have o3 : ∀ p ∈ news, p.1 ≠ L' + 1 + 1 + 1 := fun p hp => Nat.ne_of_lt (Nat.lt_succ_of_lt (Nat.lt_succ_of_lt (Nat.lt_succ_of_lt (l1 p hp))))
 generalize hcq : (Builtin.Int.intBits (x : Int) + n - 1) / n = cq at *
 walk_at "~"
 unfold Mine.Stop
 (try k_unmd); (try dsimp only)
 rw [hcount]
 with_reducible rename News g' L' _ _ => hN2
 with_reducible rename Fr g' L' _ _ => hF2
 refine' KMa.mul (ws := List.replicate cq (Value.int 0 tk')) hF2 hN2 ?l ?lo ?hi ?z ?e ?_
 case l => is_list
 case lo => omega
 case hi => omega
 case z => (simp; omega)
 case e => (rw [Int.toNat_natCast]; simp)
 k_whole
 intro D h9 F9 N9 l9
 k_lt l9
 clear hF2 hN2
 walk_at "~"
 unfold Mine.Stop
 (try k_unmd); (try dsimp only)
 refine nestDef_K rfl rfl rfl ?_
 with_reducible rename News g' L' _ _ => hN3
 with_reducible rename Fr g' L' _ _ => hF3
 rw [hnews] at hN3
 replace hN3 := Mine.news_up5 hN3
 have h73 : @LT.lt Nat instLTNat 73 L' := by ((first | refine Mine.exE (Mine.TabE.mem hTI) ?_ | refine Mine.anE (Mine.TabE.mem hTI) ?_); intro o ho); exact l1 _ (by rw [hnews]; exact List.mem_append.mpr (.inl ho))
 have hL9 : ∀ q ∈ tD ++ news0, q.1 < L' := fun q hq => l1 q (by rw [hnews]; exact List.mem_append.mpr (.inr hq))
 have hLl : @LT.lt Nat instLTNat L' D := by (refine Mine.foldG ?_; intro gk197; (first | refine Mine.exE l9 ?_ | refine Mine.anE l9 ?_); intro zo190 zo191; clear l9; (first | refine Mine.exE zo191 ?_ | refine Mine.anE zo191 ?_); intro zo192 zo193; clear zo191; (first | refine Mine.exE zo193 ?_ | refine Mine.anE zo193 ?_); intro zo194 zo195; clear zo193; (first | refine Mine.exE zo195 ?_ | refine Mine.anE zo195 ?_); intro l9 zo196; clear zo195; unfold gk197; clear gk197); exact Nat.lt_of_succ_lt l9
 have hD9 : ∀ q ∈ tD ++ news0, q.1 < D := fun q hq => Nat.lt_trans (hL9 q hq) hLl
 have hlD : @LT.lt Nat instLTNat (L' + 1 + 1 + 1) D := by ((first | refine Mine.exE l9 ?_ | refine Mine.anE l9 ?_); intro zo198 zo199; clear l9; (first | refine Mine.exE zo199 ?_ | refine Mine.anE zo199 ?_); intro l9 zo200; clear zo199); exact l9
 refine Mine.nest_any hF3 hN3 T' (Mine.cdI w X') rfl hTI rfl rfl ?h80 ?off rfl ?_
 case h80 =>
  ((first | refine Mine.exE (Mine.TabE.mem hTD) ?_ | refine Mine.anE (Mine.TabE.mem hTD) ?_); intro o ho)
  exact ⟨o, by simp [ho]⟩
 case off =>
  refine List.forall_mem_cons.mpr ⟨Nat.ne_of_gt (Nat.lt_trans h73 hLl), List.forall_mem_cons.mpr ⟨Nat.ne_of_gt (by omega), List.forall_mem_cons.mpr ⟨Nat.ne_of_gt (by omega), List.forall_mem_cons.mpr ⟨Nat.ne_of_gt (by omega), ?_⟩⟩⟩⟩
  exact fun q hq => (List.mem_append.mp hq).elim (fun h => hTD.off (by decide) (by decide) q h) (fun h => (hoff q h).1)
 clear hF3 hN3
 intro f c' oc vs t9 ctv doc oF h8 tk8 hoF F8 N8 hc8 hd8 hv8 l8
 have w1 : ∀ q ∈ tD ++ news0, q.1 ≠ L' + 1 := fun q hq => o1 q (by rw [hnews]; exact List.mem_append.mpr (.inr hq))
 have w2 : ∀ q ∈ tD ++ news0, q.1 ≠ L' + 1 + 1 := fun q hq => o2 q (by rw [hnews]; exact List.mem_append.mpr (.inr hq))
 have w3 : ∀ q ∈ tD ++ news0, q.1 ≠ L' + 1 + 1 + 1 := fun q hq => o3 q (by rw [hnews]; exact List.mem_append.mpr (.inr hq))
 (refine Mine.nameE (a := (73, tabObj #[rawInt (85 : Nat), rawInt (4 : Nat), Value.ref c']) :: (c', oc) :: (tD ++ news0)) ?_; intro R9 hR9)
 replace N8 := Mine.news_nest (R := R9) N8 hR9
 have cD : ∀ q ∈ R9, q.1 ≠ D := Mine.r9_off N8 hR9 (by (walk_at "n")) (List.mem_cons_self ..) (by intro ws; simp [W.listOf]) hd8 (fun q hq => Nat.ne_of_lt (hD9 q hq))
 have cf : ∀ q ∈ R9, q.1 ≠ f := Mine.r9_off N8 hR9 (by (walk_at "n")) (List.mem_cons_of_mem _ (List.mem_cons_self ..)) (by intro ws; rw [hoF]; simp [fnMade]) hd8 (fun q hq => Nat.ne_of_lt (l8 q (by walk_at "m")))
 have c3 : ∀ q ∈ R9, q.1 ≠ L' + 1 + 1 + 1 := Mine.r9_off N8 hR9 (by (walk_at "n")) (List.mem_cons_of_mem _ (List.mem_cons_of_mem _ (List.mem_cons_self ..))) (by intro ws; simp_all) hd8 w3
 have h7380 : D ≠ 73 ∧ D ≠ 80 := by
  ((first | refine Mine.exE (Mine.TabE.mem hTD) ?_ | refine Mine.anE (Mine.TabE.mem hTD) ?_); intro o ho)
  exact ⟨Ne.symm (cD _ (by rw [hR9]; exact List.mem_cons_self ..)), Ne.symm (cD (80, o) (by rw [hR9]; simp [ho]))⟩
 k_lt l8
 have CH := Mine.cdI w X'
 clear F N FG' X B T o1 o2 o3 hL9 hD9
 walk_at "~"
 ·unfold Mine.Stop
  with_reducible rename News g' L' _ _ => hN8
  have hx0 : x ≠ 0 := by intro h0; subst h0; rename ¬ _ => hz; exact hz rfl
  have hb1 := Mine.bits_pos hx0
  have hcx : 1 ≤ cq := by rw [← hcq]; exact (Nat.one_le_div_iff hn).mpr (by omega)
  have hxc : x < 2 ^ (n * cq) := Nat.lt_of_lt_of_le (Mine.lt_bits x) (Nat.pow_le_pow_right (by decide) (by rw [← hcq]; exact Mine.ceil_le hn))
  refine Mine.pack5 hN8 ?_
  intro oi oa on e1 e2 e3 hN7
  have hoi : oi.data = Data.cell (some (Value.ref f)) := by rw [e1]; assumption
  have hoa : oa.data = Data.cell (some (Value.ref D)) := by rw [e2]; assumption
  have hon : on.data = Data.cell (some (Value.int (n : Nat) u)) := by rw [e3]; assumption
  have hoF9 := hoF
  have hcm : (c', oc) ∈ R9 := by rw [hR9]; simp
  clear hN8
  have key : ∀ k, 1 ≤ k → Mine.InCtr w f (L' + 1 + 1 + 1) (L' + 1 + 1) (L' + 1) D c' oF oi oa on oc n k := by
   have hDi : @Ne Nat (L' + 1 + 1 + 1) D := Nat.ne_of_lt hlD
   have hDa : @Ne Nat (L' + 1 + 1) D := Nat.ne_of_lt (Nat.lt_of_succ_lt hlD)
   have hDn : @Ne Nat (L' + 1) D := Nat.ne_of_lt (Nat.lt_of_succ_lt (Nat.lt_of_succ_lt hlD))
   have hDf : @Ne Nat f D := by ((first | refine Mine.exE l8 ?_ | refine Mine.anE l8 ?_); intro q zo201; clear l8); exact Nat.ne_of_gt q
   ((repeat ((with_reducible rename Fr g' L' _ _ => Fx9); clear Fx9)); (repeat ((with_reducible rename News g' L' _ _ => Nx9); clear Nx9)))
   clear hret hTI hTD hoff B' T' CH hcm cD cf c3 w1 w2 w3 hR9 hnews l1 l9 l8 hcx hcq hc200 hcount hx hoF9 e1 e2 e3 h73 hLl hlD hd hu hk
   intro k
   induction k using Nat.strongRecOn with
   | ind k ih =>
   intro hk1
   unfold Mine.InCtr
   k_fill
   intro p loose mean mg mb dp un gd cnm cs a ccd cl outer A₀ base h₀ L m R s Q E vs ns x lo t1 t2 t3 B F X N hcm hR T hk hd hu hvs hlo hns hx hret
   refine wpAny_call ?_
   have hrec := codeRec_news N (List.mem_cons_of_mem _ (List.mem_cons_of_mem _ (List.mem_cons_of_mem _ (List.mem_cons_of_mem _ (List.mem_cons_of_mem _ hcm))))) hd8 hv8
   refine' code_nest (binds := [(Str.ofString "x", Value.int (x : Nat) t1), (Str.ofString "L", Value.int (lo : Nat) t2), (Str.ofString "R", Value.int (lo + k : Nat) t3)]) B F X N T ?k1 ?k2 ?k3 ?k4 hrec ?k6 ?k7 ?k8 ?_ ?c2 ?c3 ?c4 ?c5
   case k1 => exact rfl
   case k2 => exact rfl
   case k3 => exact hk
   case k4 => rw [← hoF]; simp
   case k6 => ktr_room
   case k7 => exact BindsTo.of_eq rfl
   case k8 => exact locs rfl
   case c2 => exact rfl
   case c3 => exact rfl
   case c4 => exact rfl
   case c5 => decide
   intro g L2 h1 FG F2 N2 B2 X2 T2
   replace F2 := Mine.fr_args F2 rfl
   simp only [kstB, List.reverse_cons, List.reverse_nil, List.nil_append, List.cons_append] at F2
   (try dsimp only); walk_at "f"
   clear B F X N FG T hrec
   have CH := Mine.cdI w X2
   by_cases hk2 : k = 1
   ·subst hk2
    walk_at "~"
    ·with_reducible rename Fr g L2 _ _ => hF5
     with_reducible rename News g L2 _ _ => hN5
     with_reducible rename IntsAre (List.set _ _ _) _ => hi5
     (try dsimp only)
     refine leaveK_ hF5 hN5 ?_
     intro kF kN
     (try dsimp only)
     exact hret _ _ _ _ hi5 (Mine.Digs.one hlo (by rwa [Nat.mul_one] at hx)) kF kN
   ·have hmid := Mine.mid_nat lo k
    have hsh := Mine.sh_nat lo (k / 2) n
    have hup := Mine.fdiv_pow x (k / 2 * n)
    have hsl := Mine.mul_pow_nat (x / 2 ^ (k / 2 * n)) (k / 2 * n)
    have hxor := Mine.xor_hi x (k / 2 * n)
    have hsz : (Builtin.Int.intBits ((x / 2 ^ (k / 2 * n) : Nat) : Int) : Int) + ((k / 2 * n : Nat) : Int) ≤ 2 ^ 27 := by
     have q1 : Builtin.Int.intBits ((x / 2 ^ (k / 2 * n) : Nat) : Int) ≤ n * k := Mine.bits_lt (Nat.lt_of_le_of_lt (Nat.div_le_self _ _) hx)
     have q2 : n * k ≤ 1000 * 1000 := Nat.mul_le_mul hn2 (by omega)
     have q3 : k / 2 * n ≤ 1000 * 1000 := Nat.mul_le_mul (by omega) hn2
     omega
    walk_at "~"
    ·unfold Mine.Stop
     (try k_unmd); (try dsimp only)
     with_reducible rename Fr g L2 _ _ => hF5
     with_reducible rename News g L2 _ _ => hN5
     have hpk : 2 ^ (n * k) = 2 ^ (k / 2 * n) * 2 ^ (n * (k - k / 2)) := by
      rw [← Nat.pow_add]; congr 1; rw [Nat.mul_comm (k / 2) n, ← Nat.mul_add]; congr 1; omega
     k_dflt (refine' ih (k / 2) (by omega) (by omega) _ _ _ _ _ _ _ _ _ _ _ _ _ _ _ _ _ _ _ _ _ _ _  vs ns _ lo _ _ _ B2 hF5 X2 hN5 hcm hR T2 rfl ?d ?u hvs ?lo hns ?xx ?_)
     case d => ktr_room
     case u => ktr_units
     case lo => omega
     case xx => rw [Nat.mul_comm n]; exact Nat.mod_lt _ (Nat.two_pow_pos _)
     k_whole
     intro vs1 ns1 h2 tk2 hi1 hD1 F3 N3
     clear hF5 hN5
     (try dsimp only)
     have hl1 : ns1.length = ns.length := hD1.1
     walk_at "~"
     unfold Mine.Stop
     (try k_unmd); (try dsimp only)
     with_reducible rename Fr g L2 _ _ => hF5
     with_reducible rename News g L2 _ _ => hN5
     rw [show lo + k = lo + k / 2 + (k - k / 2) by omega]
     k_dflt (refine' ih (k - k / 2) (by omega) (by omega) _ _ _ _ _ _ _ _ _ _ _ _ _ _ _ _ _ _ _ _ _ _ _  vs1 ns1 _ (lo + k / 2) _ _ _ B2 hF5 X2 hN5 hcm hR T2 rfl ?d2 ?u2 hi1 ?lo2 ?hns2 ?xx2 ?_)
     case d2 => ktr_room
     case u2 => ktr_units
     case lo2 => omega
     case hns2 => omega
     case xx2 =>
      rw [hpk] at hx
      exact Nat.div_lt_of_lt_mul hx
     k_whole
     intro vs2 ns2 h3 tk3 hi2 hD2 F4 N4
     (try dsimp only)
     walk_at "~"
     refine leaveK_ F4 N4 ?_
     intro kF kN
     (try dsimp only)
     exact hret _ _ _ _ hi2 (Mine.Digs.cut (by omega) hD1 hD2) kF kN
  with_reducible rename Fr g' L' _ _ => hF7
  have hrep := Mine.ints_rep tk' cq
  rw [show ((cq : Nat) : Int) = ((0 + cq : Nat) : Int) by omega, show (Value.int 0 tk8) = Value.int ((0 : Nat) : Int) tk8 from rfl]
  k_dflt (refine' key cq hcx _ _ _ _ _ _ _ _ _ _ _ _ _ _ _ _ _ _ _ _ _ _ _  (List.replicate cq (Value.int 0 tk')) (List.replicate cq 0) _ 0 _ _ _ B' hF7 X' hN7 hcm cD T' rfl ?d ?u hrep ?lo ?hns ?xx ?_)
  case d => ktr_room
  case u => ktr_units
  case lo => simp
  case hns => simp; omega
  case xx => exact hxc
  k_whole
  intro vs1 ns1 h2 tk2 hi1 hD1 F3 N3
  clear hF7 hN7 key
  (try dsimp only)
  have hns1 := Mine.Digs.whole hD1 (by simp)
  rw [← hcq] at hns1
  walk_at "~"
  (try dsimp only)
  refine leaveK_ F3 N3 ?_
  intro kF kN
  (try dsimp only)
  refine hret _ [(D, W.listOf vs1.toArray 0)] [(73, tabObj #[rawInt (85 : Nat), rawInt (4 : Nat), Value.ref c']), (c', oc)] tD _ _ ⟨D, vs1, rfl, rfl, by rw [hns1] at hi1; exact hi1⟩ (.inr ⟨c', oc, vs, t9, rfl, hc8, hd8, hv8⟩) hTD ?_ kF (Mine.news_re kN (by rw [hR9]; (walk_at "n")))
  exact List.forall_mem_cons.mpr ⟨h7380, List.forall_mem_nil _⟩
 ·have hx0 : x = 0 := by omega
  subst hx0
  have hc0 : cq = 0 := by
   rw [← hcq, show Builtin.Int.intBits ((0 : Nat) : Int) = 0 from by decide, Nat.zero_add]
   exact Nat.div_eq_of_lt (by omega)
  with_reducible rename Fr g' L' _ _ => hF7
  with_reducible rename News g' L' _ _ => hN7
  (try dsimp only)
  refine leaveK_ hF7 hN7 ?_
  intro kF kN
  (try dsimp only)
  have hi0 : IntsAre (List.replicate cq (Value.int 0 tk')) (Mine.digitsL 0 n) := by
   unfold Mine.digitsL
   rw [hcq, hc0]; exact .nil
  refine hret _ [(D, W.listOf (List.replicate cq (Value.int 0 tk')).toArray 0)] [(73, tabObj #[rawInt (85 : Nat), rawInt (4 : Nat), Value.ref c']), (c', oc)] tD _ _ ⟨D, _, rfl, rfl, hi0⟩ (.inr ⟨c', oc, vs, t9, rfl, hc8, hd8, hv8⟩) hTD ?_ kF (Mine.news_re kN (by rw [hR9]; (walk_at "n")))
  exact List.forall_mem_cons.mpr ⟨h7380, List.forall_mem_nil _⟩
end
end
section
namespace Mine
theorem mem_of {x : Addr × Obj} {R l : List (Addr × Obj)} (h : x ∈ R) (s : ∀ q ∈ R, q ∈ l) : x ∈ l := s x h
theorem val_one (ds : List Nat) (lo n : Nat) (h : lo + 1 ≤ ds.length) : (List.map (fun (d : Nat) => (d : Int)) ds).getD ((lo : Int)).toNat 0 = ((valN n ((ds.drop lo).take 1) : Nat) : Int) := by
 have e : (ds.drop lo).take 1 = [ds[lo]] := by rw [List.drop_eq_getElem_cons (show lo < ds.length by omega)]; rfl
 rw [Int.toNat_natCast, e]
 simp [valN, List.getD, List.getElem?_eq_getElem (show lo < ds.length by omega)]
end Mine
section
set_option maxHeartbeats 8000000 in
theorem Mine.d2i_c (w : World) (D : Addr) (vs : List Value) (nn : Nat) (ds : List Nat) (n : Nat) (hn : 0 < n) (hn2 : n ≤ 1000) (hds : IntsAre vs (ds.map fun (d : Nat) => ((d : Nat) : Int))) (hd2 : ∀ d ∈ ds, d < 2 ^ n) (hl : ds.length ≤ 200) (u : Tok) :
  Mine.CtrL w 85 300 5000 [.ref D, .int (n : Nat) u] (fun l => (D, listOf vs.toArray nn) ∈ l) (fun r tl => ∃ t, r = .int (Mine.valN n ds : Nat) t ∧ tl = []) := by
 k_with_none
 k_with "storeName" => (k_here; (with_reducible show wpAny _ _ (storeName _ _ _) _ _ _); k_dflt (refine' Mine.storeF ?Fw36 ?Nw36 ?_ ?aw36 ?bw36; (case Fw36 => k_asm); (case Nw36 => k_asm); (case aw36 => exact Eq.refl ScopeKind.function); (case bw36 => exact Eq.refl (some NameKind.local)); k_whole; intro h7s m7s F7s N7s; (try k_sweep)))
 k_with "eval Name" => (k_here; (with_reducible show wpAny _ _ (eval (Expr.Name _ _) _) _ _ _); k_dflt (refine' nameX_L ?Fw37 ?vw37 ?_ ?aw37 ?bw37; (case Fw37 => k_asm); (case aw37 => exact Eq.refl ScopeKind.function); (case bw37 => exact Eq.refl (some NameKind.local)); (case vw37 => exact Eq.refl (some _)); k_whole))
 k_with "exec FunctionDef" => (k_here; refine Mine.stop ?_)
 k_with "call ref" => (k_here; refine Mine.stop ?_)
 k_with "callWith ref" => (k_here; k_dflt (refine' callWith_F ?k1w40 ?_; (case k1w40 => exact Mine.fnAt_of (by k_asm) (by k_mem) (by assumption)); k_whole))
 k_with "FnAt" => (k_dflt (exact Mine.fnAt_of (by k_asm) (by k_mem) (by assumption)))
 k_with "truthy" => (k_here; (with_reducible show wpAny _ _ (truthy (Value.ref _)) _ _ _); k_dflt (refine' wpAny_truthy_list ?k1w42 ?k2w42 ?_; (case k1w42 => exact News.isList (by k_asm) (Mine.mem_of hDm (by intro q hq; walk_at "m"))); (case k2w42 => (simp only [List.size_toArray]; omega)); k_whole); simp only [hemp])
 k_with "call builtin:len" => (k_here; (with_reducible show wpAny _ _ (call (Value.builtin "len") [Value.ref _]) _ _ _); k_dflt (refine' len_list ?k1w43 ?k2w43 ?_; (case k1w43 => exact News.isList (by k_asm) (Mine.mem_of hDm (by intro q hq; walk_at "m"))); (case k2w43 => (simp only [List.size_toArray]; omega)); k_whole); (try simp only [List.size_toArray]))
 k_with "subscriptTail" => (k_here; (with_reducible show wpAny _ _ (subscriptTail _ _ (Value.ref _) (Value.int _ _)) _ _ _); (with_unfolding_all refine' item_anyK ?k1w44 ?k2w44 ?k3w44 ?k4w44 ?k5w44 ?_ ?k6w44; (case k1w44 => exact News.isList (by k_asm) (Mine.mem_of hDm (by intro q hq; walk_at "m"))); (case k2w44 => exact hds); (case k3w44 => omega); (case k4w44 => (simp only [List.length_map]; omega)); (case k5w44 => omega); (case k6w44 => with_unfolding_all rfl); k_whole); intro _)
 k_with "binaryOp RShift int int" => first | (exfalso; omega) | (k_here; k_dflt (refine' rshift_int ?k1w45 ?_; (case k1w45 => decide); k_whole); simp only [hmid])
 k_with "binaryOp LShift int int" => (k_here; (try rw [hsh]); k_dflt (refine' lshift_int ?k1w46 ?k2w46 ?_; (case k1w46 => exact Int.natCast_nonneg _); (case k2w46 => exact hsz); k_whole); simp only [hsl])
 ((try unfold Mine.CtrT); unfold Mine.CtrL; k_fill; intro p loose mean mg mb dp un gd cn cs a ccd cl outer A₀ base h₀ L m tI tD news0 s Q E B F X N hTI hTD hoff hpre T hk hd hu hret; (refine Mine.nameE (a := tI ++ (tD ++ news0)) ?_; intro news hnews); rw [← hnews] at N; refine wpAny_call ?_; k_dflt (refine' code_defC (binds := [(Str.ofString "digits", Value.ref D), (Str.ofString "n", Value.int (n : Nat) u)]) ?k1 ?k2 ?k3 ?k4 ?k5 ?kA ?kF ?kK ?k6 ?k7 ?k8 ?k9 ?kB ?kD ?_ ?c2 ?c3 ?c4; (case kA => exact rfl); (case kF => exact rfl); (case kK => assumption); (case k1 => k_asm); (case k2 => k_asm); (case k3 => k_asm); (case k4 => k_asm); (case k5 => k_asm); (case k6 => k_is); (case k7 => k_is); (case k8 => ktr_room); (case k9 => first | exact BindsTo.of_eq (by kernel_rfl) | exact binds_K (by k_in) rfl (by k_is) rfl rfl rfl); (case kB => exact rfl); (case kD => decide +kernel); (case c2 => exact rfl); (case c3 => exact rfl); (case c4 => exact rfl); k_whole; intro g' L' h' tk' cells' FG' F' N' Y' B' X' T' l1; k_cells Y'; (try dsimp only [List.cons_append, List.nil_append] at N'); (try dsimp only); walk_at "f"))
 (replace F' : Fr g' L' h' (kstB (fun _ => none) []) := Mine.fr_same F' (by kernel_rfl))
 dsimp only [kstB] at F'
 (refine Mine.foldA ?_; intro ak)
 have o1 : ∀ p ∈ news, p.1 ≠ L' + 1 := fun p hp => Nat.ne_of_lt (Nat.lt_succ_of_lt (l1 p hp))
 have o2 : ∀ p ∈ news, p.1 ≠ L' + 1 + 1 := fun p hp => Nat.ne_of_lt (Nat.lt_succ_of_lt (Nat.lt_succ_of_lt (l1 p hp)))
 have o3 : ∀ p ∈ news, p.1 ≠ L' + 1 + 1 + 1 := fun p hp => Nat.ne_of_lt (Nat.lt_succ_of_lt (Nat.lt_succ_of_lt (Nat.lt_succ_of_lt (l1 p hp))))
 walk_at "~"
 unfold Mine.Stop
 (try k_unmd); (try dsimp only)
 refine nestDef_K rfl rfl rfl ?_
 with_reducible rename News g' L' _ _ => hN3
 with_reducible rename Fr g' L' _ _ => hF3
 rw [hnews] at hN3
 replace hN3 := Mine.news_up4 hN3
 have h80 : @LT.lt Nat instLTNat 80 L' := by ((first | refine Mine.exE (Mine.TabE.mem hTD) ?_ | refine Mine.anE (Mine.TabE.mem hTD) ?_); intro o ho); exact l1 (80, o) (by rw [hnews]; simp [ho])
 have hL9 : ∀ q ∈ tI ++ news0, q.1 < L' := fun q hq => l1 q (by rw [hnews]; simp only [List.mem_append] at hq ⊢; rcases hq with h | h <;> simp [h])
 refine Mine.nest_any hF3 hN3 T' (Mine.cdD w X') rfl hTD rfl rfl ?h80 ?off rfl ?_
 case h80 =>
  ((first | refine Mine.exE (Mine.TabE.mem hTD) ?_ | refine Mine.anE (Mine.TabE.mem hTD) ?_); intro o ho)
  exact ⟨o, List.mem_append.mpr (.inl ho)⟩
 case off =>
  refine List.forall_mem_cons.mpr ⟨Nat.ne_of_gt (by omega), List.forall_mem_cons.mpr ⟨Nat.ne_of_gt (by omega), List.forall_mem_cons.mpr ⟨Nat.ne_of_gt (by omega), ?_⟩⟩⟩
  exact fun q hq => (List.mem_append.mp hq).elim (fun h => hTI.off (by decide) (by decide) q h) (fun h => (hoff q h).2)
 clear hF3 hN3
 intro f c' oc fs t9 ctv doc oF h8 tk8 hoF F8 N8 hc8 hd8 hv8 l8
 have w1 : ∀ q ∈ tI ++ news0, q.1 ≠ L' + 1 := fun q hq => Nat.ne_of_lt (Nat.lt_succ_of_lt (hL9 q hq))
 have w2 : ∀ q ∈ tI ++ news0, q.1 ≠ L' + 1 + 1 := fun q hq => Nat.ne_of_lt (Nat.lt_succ_of_lt (Nat.lt_succ_of_lt (hL9 q hq)))
 have w3 : ∀ q ∈ tI ++ news0, q.1 ≠ L' + 1 + 1 + 1 := fun q hq => Nat.ne_of_lt (Nat.lt_succ_of_lt (Nat.lt_succ_of_lt (Nat.lt_succ_of_lt (hL9 q hq))))
 (refine Mine.nameE (a := (80, tabObj #[rawInt (100 : Nat), rawInt (4 : Nat), Value.ref c']) :: (c', oc) :: (tI ++ news0)) ?_; intro R9 hR9)
 replace N8 := Mine.news_nest4 (R := R9) N8 hR9
 have hDm : (D, W.listOf vs.toArray nn) ∈ R9 := by rw [hR9]; simp [hpre]
 have c3 : ∀ q ∈ R9, q.1 ≠ L' + 1 + 1 + 1 := Mine.r9_off N8 hR9 (by (walk_at "n")) (List.mem_cons_of_mem _ (List.mem_cons_self ..)) (by intro ws; simp_all) hd8 w3
 have hvl : vs.length = ds.length := by have := hds.length; simpa using this
 k_lt l8
 have CH := Mine.cdD w X'
 clear F N FG' X B T o1 o2 o3 hL9
 by_cases hds0 : ds.length = 0
 ·have hemp : (!vs.toArray.isEmpty) = false := by
   have : vs = [] := List.length_eq_zero_iff.mp (by omega)
   rw [this]; rfl
  walk_at "~"
  with_reducible rename Fr g' L' _ _ => hF7
  with_reducible rename News g' L' _ _ => hN7
  refine leaveK_ hF7 hN7 ?_
  intro kF kN
  (try dsimp only)
  have hv0 : (0 : Int) = ((Mine.valN n ds : Nat) : Int) := by rw [List.length_eq_zero_iff.mp hds0]; rfl
  rw [hv0]
  exact hret _ [] tI [(80, tabObj #[rawInt (100 : Nat), rawInt (4 : Nat), Value.ref c']), (c', oc)] _ _ ⟨_, rfl, rfl⟩ hTI (.inr ⟨c', oc, fs, t9, rfl, hc8, hd8, hv8⟩) (fun _ h => nomatch h) kF (Mine.news_re kN (by rw [hR9]; (walk_at "n")))
 ·have hemp : (!vs.toArray.isEmpty) = true := by
   cases vs with
   | nil => simp at hvl; omega
   | cons a l => rfl
  walk_at "~"
  unfold Mine.Stop
  with_reducible rename News g' L' _ _ => hN8
  with_reducible rename Fr g' L' _ _ => hF7
  refine Mine.pack4 hN8 ?_
  intro oi oa on e1 e2 e3 hN7
  have hoi : oi.data = Data.cell (some (Value.ref f)) := by rw [e1]; assumption
  have hoa : on.data = Data.cell (some (Value.ref D)) := by rw [e3]; assumption
  have hon : oa.data = Data.cell (some (Value.int (n : Nat) u)) := by rw [e2]; assumption
  have hcm : (c', oc) ∈ R9 := by rw [hR9]; simp
  clear hN8
  have hlen : ds.length ≤ 1000 := by omega
  have key : ∀ k, 1 ≤ k → Mine.In2 w f (L' + 1 + 1 + 1) (L' + 1 + 1) (L' + 1) D c' oF oi oa on oc vs nn ds n k := by
   ((repeat ((with_reducible rename Fr g' L' _ _ => Fx9); clear Fx9)); (repeat ((with_reducible rename News g' L' _ _ => Nx9); clear Nx9)))
   clear hret hTI hTD hoff B' T' CH hcm c3 w1 w2 w3 hR9 hnews l1 l8 e1 e2 e3 hd hu hk hDm hl h80
   intro k
   induction k using Nat.strongRecOn with
   | ind k ih =>
   intro hk1
   unfold Mine.In2
   k_fill
   intro p loose mean mg mb dp un gd cnm cs a ccd cl outer A₀ base h₀ L m R s Q E lo t2 t3 B F X N hcm hDm T hk hd hu hlo hret
   refine wpAny_call ?_
   have hrec := codeRec_news N (List.mem_cons_of_mem _ (List.mem_cons_of_mem _ (List.mem_cons_of_mem _ (List.mem_cons_of_mem _ hcm)))) hd8 hv8
   refine' code_nest (binds := [(Str.ofString "L", Value.int (lo : Nat) t2), (Str.ofString "R", Value.int (lo + k : Nat) t3)]) B F X N T ?k1 ?k2 ?k3 ?k4 hrec ?k6 ?k7 ?k8 ?_ ?c2 ?c3 ?c4 ?c5
   case k1 => exact rfl
   case k2 => exact rfl
   case k3 => exact hk
   case k4 => rw [← hoF]; simp
   case k6 => ktr_room
   case k7 => exact BindsTo.of_eq rfl
   case k8 => exact locs rfl
   case c2 => exact rfl
   case c3 => exact rfl
   case c4 => exact rfl
   case c5 => decide
   intro g L2 h1 FG F2 N2 B2 X2 T2
   replace F2 := Mine.fr_args F2 rfl
   simp only [kstB, List.reverse_cons, List.reverse_nil, List.nil_append, List.cons_append] at F2
   (try dsimp only); walk_at "f"
   clear B F X N FG T hrec
   have CH := Mine.cdD w X2
   by_cases hk2 : k = 1
   ·subst hk2
    walk_at "~"
    with_reducible rename Fr g L2 _ _ => hF5
    with_reducible rename News g L2 _ _ => hN5
    (try dsimp only)
    refine leaveK_ hF5 hN5 ?_
    intro kF kN
    (try dsimp only)
    rw [Mine.val_one ds lo n hlo]
    exact hret _ _ _ kF kN
   ·have hmid := Mine.mid_nat lo k
    have hsh := Mine.sh_nat lo (k / 2) n
    have hcut := Mine.valN_cut n ds lo (k / 2) k (by omega) hlo
    have hvb : Mine.valN n ((ds.drop (lo + k / 2)).take (k - k / 2)) < 2 ^ (n * (k - k / 2)) := by
     have := Mine.valN_lt n ((ds.drop (lo + k / 2)).take (k - k / 2)) (fun d hd => hd2 d (List.mem_of_mem_drop (List.mem_of_mem_take hd)))
     rwa [List.length_take, List.length_drop, Nat.min_eq_left (by omega)] at this
    have hsl := Mine.mul_pow_nat (Mine.valN n ((ds.drop (lo + k / 2)).take (k - k / 2))) (k / 2 * n)
    have hsz : (Builtin.Int.intBits ((Mine.valN n ((ds.drop (lo + k / 2)).take (k - k / 2)) : Nat) : Int) : Int) + ((k / 2 * n : Nat) : Int) ≤ 2 ^ 27 := by
     have q1 := Mine.bits_lt hvb
     have q2 : n * (k - k / 2) ≤ 1000 * 1000 := Nat.mul_le_mul hn2 (by omega)
     have q3 : k / 2 * n ≤ 1000 * 1000 := Nat.mul_le_mul (by omega) hn2
     omega
    clear hvb
    walk_at "~"
    ·unfold Mine.Stop
     (try k_unmd); (try dsimp only)
     with_reducible rename Fr g L2 _ _ => hF5
     with_reducible rename News g L2 _ _ => hN5
     rw [show lo + k = lo + k / 2 + (k - k / 2) by omega]
     k_dflt (refine' ih (k - k / 2) (by omega) (by omega) _ _ _ _ _ _ _ _ _ _ _ _ _ _ _ _ _ _ _ _ _ _ _  (lo + k / 2) _ _ B2 hF5 X2 hN5 hcm hDm T2 rfl ?d2 ?u2 ?lo2 ?_)
     case d2 => ktr_room
     case u2 => ktr_units
     case lo2 => omega
     k_whole
     intro t5 h2 tk2 F3 N3
     clear hF5 hN5
     (try dsimp only)
     walk_at "~"
     unfold Mine.Stop
     (try k_unmd); (try dsimp only)
     with_reducible rename Fr g L2 _ _ => hF5
     with_reducible rename News g L2 _ _ => hN5
     k_dflt (refine' ih (k / 2) (by omega) (by omega) _ _ _ _ _ _ _ _ _ _ _ _ _ _ _ _ _ _ _ _ _ _ _  lo _ _ B2 hF5 X2 hN5 hcm hDm T2 rfl ?d ?u ?lo ?_)
     case d => ktr_room
     case u => ktr_units
     case lo => omega
     k_whole
     intro t6 h3 tk3 F4 N4
     clear hF5 hN5
     (try dsimp only)
     walk_at "~"
     with_reducible rename Fr g L2 _ _ => hF5
     with_reducible rename News g L2 _ _ => hN5
     (try dsimp only)
     refine leaveK_ hF5 hN5 ?_
     intro kF kN
     (try dsimp only)
     rw [← Int.natCast_add, ← hcut]
     exact hret _ _ _ kF kN
  rw [hvl, show ((ds.length : Nat) : Int) = ((0 + ds.length : Nat) : Int) by omega, show (Value.int 0 (tk8 + 1 + 1)) = Value.int ((0 : Nat) : Int) (tk8 + 1 + 1) from rfl]
  k_dflt (refine' key ds.length (by omega) _ _ _ _ _ _ _ _ _ _ _ _ _ _ _ _ _ _ _ _ _ _ _  0 _ _ B' hF7 X' hN7 hcm hDm T' rfl ?d ?u ?lo ?_)
  case d => ktr_room
  case u => ktr_units
  case lo => omega
  k_whole
  intro t5 h2 tk2 F3 N3
  clear hF7 hN7 key
  (try dsimp only)
  walk_at "~"
  with_reducible rename Fr g' L' _ _ => hF5
  with_reducible rename News g' L' _ _ => hN5
  (try dsimp only)
  refine leaveK_ hF5 hN5 ?_
  intro kF kN
  (try dsimp only)
  rw [List.drop_zero, List.take_length]
  exact hret _ [] tI [(80, tabObj #[rawInt (100 : Nat), rawInt (4 : Nat), Value.ref c']), (c', oc)] _ _ ⟨_, rfl, rfl⟩ hTI (.inr ⟨c', oc, fs, t9, rfl, hc8, hd8, hv8⟩) (fun _ h => nomatch h) kF (Mine.news_re kN (by rw [hR9]; (walk_at "n")))
end
end
section
namespace Mine
theorem allLt_ne2 {d : Addr} : ∀ {l : List (Addr × Obj)}, AllLt d l → ∀ p ∈ l, p.1 ≠ d
 | [], _ => fun _ h => nomatch h
 | q :: l, h => fun p hp => by
  rcases List.mem_cons.mp hp with rfl | hp
  ·exact Nat.ne_of_lt h.1
  ·exact allLt_ne2 h.2 p hp
noncomputable def OffT (o : Obj) : Prop := o.cls ≠ .none ∨ ∀ ws, o.data ≠ .fields ws
theorem offT_iter {o : Obj} (h : isIter o = true) : OffT o := .inl fun e => by
 unfold isIter at h
 rw [e] at h
 simp at h
theorem TabE.mem2 {P line col : Nat} {qual : Str} {tl : List (Addr × Obj)} (h : TabE P line col qual tl) : ∃ vs, (P, tabObj vs) ∈ tl := by
 rcases h with rfl | ⟨c', oc, vs, t, rfl, _⟩
 ·exact ⟨_, List.mem_cons_self ..⟩
 ·exact ⟨_, List.mem_cons_self ..⟩
theorem TabE.iter {P line col : Nat} {qual : Str} {tl : List (Addr × Obj)} (h : TabE P line col qual tl) : ∀ q ∈ tl, isIter q.2 = false := by
 rcases h with rfl | ⟨c', oc, vs, t, rfl, _, hd, hv⟩
 ·intro q hq; rw [List.mem_singleton.mp hq]; rfl
 ·intro q hq
  rcases List.mem_cons.mp hq with rfl | hq
  ·rfl
  ·rw [List.mem_singleton.mp hq]; exact isIter_code hd hv
theorem TabE.own {P line col : Nat} {qual : Str} {tl : List (Addr × Obj)} (h : TabE P line col qual tl) : ∀ q ∈ tl, okOwn q.2 = true := by
 intro q hq
 unfold okOwn
 rw [h.iter q hq]
 rcases h with rfl | ⟨c', oc, vs, t, rfl, _, hd, hv⟩
 ·rw [List.mem_singleton.mp hq]; rfl
 ·rcases List.mem_cons.mp hq with rfl | hq
  ·rfl
  ·rw [List.mem_singleton.mp hq, hd]; rfl
theorem off_new {h₀ h : Heap} {L : Addr} {x : Addr × Obj} {l tI tD n0 : List (Addr × Obj)} (N : News h₀ L h l) (hx : x ∈ l) (hTI : TabI tI) (hTD : TabD tD) (hs : ∀ q ∈ tI ++ (tD ++ n0), q ∈ l) (ho : OffT x.2) : x.1 ≠ 73 ∧ x.1 ≠ 80 := by
 ((first | refine Mine.exE hTI.mem2 ?_ | refine Mine.anE hTI.mem2 ?_); intro ps h73)
 ((first | refine Mine.exE hTD.mem2 ?_ | refine Mine.anE hTD.mem2 ?_); intro ps2 h80)
 exact ⟨tab_off (q := x) N (P := 73) (hs _ (List.mem_append.mpr (.inl h73))) hx ho, tab_off (q := x) N (P := 80) (hs _ (List.mem_append.mpr (.inr (List.mem_append.mpr (.inl h80))))) hx ho⟩
theorem TabE.fields {P line col : Nat} {qual : Str} {tl : List (Addr × Obj)} (h : TabE P line col qual tl) : ∀ q ∈ tl, ∃ ws, q.2.data = .fields ws := by
 rcases h with rfl | ⟨c', oc, vs, t, rfl, _, hd, hv⟩
 ·intro q hq; rw [List.mem_singleton.mp hq]; exact ⟨_, rfl⟩
 ·intro q hq
  rcases List.mem_cons.mp hq with rfl | hq
  ·exact ⟨_, rfl⟩
  ·rw [List.mem_singleton.mp hq]; exact ⟨_, hd⟩
theorem news_apart {h₀ h : Heap} {L b : Addr} {ob : Obj} {l news tI tD n0 : List (Addr × Obj)} (N : News h₀ L h l) (hnews : news = tI ++ (tD ++ n0)) (hTI : TabI tI) (hTD : TabD tD) (hs : ∀ q ∈ news, q ∈ l) (hb : (b, ob) ∈ l) (hf : ∀ ws, ob.data ≠ .fields ws) (h0 : ∀ q ∈ n0, q.1 ≠ b) : ∀ q ∈ news, q.1 ≠ b := by
 intro q hq
 have hm := hs q hq
 rw [hnews] at hq
 have key : (∃ ws, q.2.data = .fields ws) → q.1 ≠ b := by
  intro zr202
  ((first | refine Mine.exE zr202 ?_ | refine Mine.anE zr202 ?_); intro ws e; clear zr202)
  exact ne_data (oa := q.2) N hm hb (fun e2 => hf ws (by rw [← e2, e]))
 rcases List.mem_append.mp hq with h | h
 ·exact key (hTI.fields q h)
 ·rcases List.mem_append.mp h with h | h
  ·exact key (hTD.fields q h)
  ·exact h0 q h
theorem app_obj2 {us : List Value} (v : Value) (h : 1 ≤ us.length) : W.listOf (us.toArray.push v) (us.length - 1 + 1) = W.listOf (us ++ [v]).toArray ((us ++ [v]).length - 1) := by
 rw [List.length_append, List.length_singleton, Nat.add_sub_cancel, Nat.sub_add_cancel h]; simp
theorem CtrL.use {w : World} {f : Addr} {d u : Nat} {vs : List Value} {Pre : List (Addr × Obj) → Prop} {Post : Value → List (Addr × Obj) → Prop} (c : CtrL w f d u vs Pre Post)
  {p : Program} {loose : List Str} {mean : ExcName → Option Value} {mg mb : Str → Option Value} {dp un : Nat} {gd : Option (List Code)} {cn : Str} {cs : Scope} {a : Addr} {ccd : Value} {cl : List (Str × Addr)} {outer : List Env} {A₀ : Around} {base h₀ : Heap} {L : Addr} {m : Str → Option Value} {tI tD news : List (Addr × Obj)} {s : Shared} {Q E : Value → Shared → Prop}
  (xs : List (Addr × Obj)) (B : Below A₀ base outer h₀) (F : Fr h₀ L s.heap m) (X : (Mine.heapK w.params).In h₀) (N : News h₀ L s.heap (xs ++ (tI ++ (tD ++ news)))) (hTI : TabI tI) (hTD : TabD tD) (hoff : ∀ q ∈ news, q.1 ≠ 73 ∧ q.1 ≠ 80) (hxs : ∀ q ∈ xs, OffT q.2) (hpre : Pre (xs ++ news)) (T : Top p loose mean mg mb h₀) (hk : cs.kind = .function) (hd : dp + d < recursionLimit) (hu : un + u < cLine)
  (k : ∀ v tl tI' tD' h' tk', Post v tl → TabI tI' → TabD tD' → (∀ q ∈ tl, q.1 ≠ 73 ∧ q.1 ≠ 80) → Fr h₀ L h' m → News h₀ L h' (tl ++ (xs ++ (tI' ++ (tD' ++ news)))) → Q v { s with heap := h', toks := tk' }) :
  wpAny (model PySem.Challenge.rw_ku0016_01.row.prog w) (ktrTop dp un gd cn cs L a ccd cl outer) (call (.ref f) vs) Q E s := by
 refine c p loose mean mg mb dp un gd cn cs a ccd cl outer A₀ base h₀ L m tI tD (xs ++ news) s Q E B F X (news_re N ?_) hTI hTD ?_ hpre T hk hd hu fun v tl tI' tD' h' tk' hp h1 h2 h3 F' N' => k v tl tI' tD' h' tk' hp h1 h2 h3 F' (news_re N' ?_)
 ·walk_at "n"
 ·intro q hq
  rcases List.mem_append.mp hq with h | h
  ·((first | refine Mine.exE hTI.mem2 ?_ | refine Mine.anE hTI.mem2 ?_); intro ps h73)
   ((first | refine Mine.exE hTD.mem2 ?_ | refine Mine.anE hTD.mem2 ?_); intro ps2 h80)
   exact ⟨tab_off (q := q) N (P := 73) (by simp only [List.mem_append]; exact .inr (.inl h73)) (List.mem_append.mpr (.inl h)) (hxs q h), tab_off (q := q) N (P := 80) (by simp only [List.mem_append]; exact .inr (.inr (.inl h80))) (List.mem_append.mpr (.inl h)) (hxs q h)⟩
  ·exact hoff q h
 ·walk_at "n"
theorem app_drop {prog : Program} {w : World} {A : Around} {E : Value → Shared → Prop} {s : Shared} {h₀ : Heap} {L l : Addr} {m : Str → Option Value} {pT : Addr × Obj} {tail : List (Addr × Obj)} {its : Array Value} {n : Nat} {x : Value} {Q : Value → Shared → Prop}
  (F : Fr h₀ L s.heap m) (N : News h₀ L s.heap (pT :: (l, listOf its n) :: tail)) (ho : ∀ p ∈ tail, p.1 ≠ l)
  (h : ∀ h', Fr h₀ L h' m → News h₀ L h' ((l, listOf (its.push x) (n + 1)) :: tail) → Q .none { s with heap := h' }) (hsz : its.size ≤ 100000) : wpAny (model prog w) A (call (.builtin "list.append") [.ref l, x]) Q E s :=
 append_K F (fun p hp => N p (List.mem_cons_of_mem _ hp)) (Upd.head ho) h (Nat.le_trans hsz (by rw [sizeLine_eq]; decide))
section
variable {prog : Program} {w : World} {A : Around} {E : Value → Shared → Prop} {s : Shared} {env : Env} {h₀ : Heap} {x : Str} {body : List Stmt} {Q : Flow → Shared → Prop}
theorem for_rev {σ : Type} {I l : Addr} {vs : List Value} {nn : Nat} {m₀ : Str → Option Value} (Own : σ → List (Addr × Obj)) (tail : List (Addr × Obj)) (ps : σ → List (Str × Value)) (stored : List Str) (P : Nat → σ → Prop) (c₀ : σ)
  (hh : A.handled = none) (hl : (l, listOf vs.toArray nn) ∈ tail)
  (F : Fr h₀ env.locals s.heap m₀) (N : News h₀ env.locals s.heap ((I, revObj l ((vs.length : Int) - 1)) :: (Own c₀ ++ tail))) (hoff : ∀ p ∈ Own c₀ ++ tail, p.1 ≠ I) (hk : ∀ p ∈ ps c₀, m₀ p.1 = some p.2) (hp : P 0 c₀)
  (turn : ∀ (c : σ) i v (u : Str → Option Value) h tk oI, i < vs.length → vs[vs.length - 1 - i]? = some v → isIter oI = true → P i c → Fr h₀ env.locals h (fun y => if y = x then some v else kstB (fun z => if stored.contains z then u z else m₀ z) (ps c) y) → News h₀ env.locals h (Own c ++ ((I, oI) :: tail)) →
   wpAny (model prog w) A (execs body env) (LpPost h₀ env.locals I oI Own tail ps stored m₀ x P (i + 1) Q { s with heap := h, toks := tk }) E { s with heap := h, toks := tk })
  (done : ∀ (c : σ) (u : Str → Option Value) h tk, P vs.length c → Fr h₀ env.locals h (fun y => if y = x then u y else kstB (fun z => if stored.contains z then u z else m₀ z) (ps c) y) → News h₀ env.locals h (Own c ++ tail) → Q .next { s with heap := h, toks := tk }) :
  wpAny (model prog w) A (pyIter (.ref I)) (fun it s₂ => LoopAtV prog w A h₀ env x body Q E it s₂) E s := by
 have hI := N _ (List.mem_cons_self ..)
 have N1 : News h₀ env.locals s.heap (Own c₀ ++ tail) := fun p hp => N p (List.mem_cons_of_mem _ hp)
 have hlm : (l, listOf vs.toArray nn) ∈ Own c₀ ++ tail := List.mem_append.mpr (.inr hl)
 have hls : s.heap.IsList l vs.toArray := ⟨_, (N1 _ hlm).1, rfl, nn, rfl⟩
 have hne : l ≠ I := hoff _ hlm
 have hit : s.heap.IsRevIter I l ((vs.length : Int) - 1) := ⟨_, hI.1, rfl, rfl⟩
 refine wpAny_pyIter_revIter hit ?_
 have W := Walks.listRev (prog := prog) (w := w) hh I l hne vs.toArray
 have hlen : vs.toArray.size = vs.length := by simp
 rw [hlen] at W
 refine for_W Own tail ps stored P c₀ W (fun i h st => ?_) (by simp) ?_ hI.2.1 hI.2.2 hoff ⟨Nat.zero_le _, ?_, hls⟩ F N1 hk hp ?_ done
 ·(refine Mine.foldG ?_; intro gk209; (first | refine Mine.exE st ?_ | refine Mine.anE st ?_); intro zo203 zo204; clear st; (first | refine Mine.exE zo204 ?_ | refine Mine.anE zo204 ?_); intro zo205 zo206; clear zo204; (first | refine Mine.exE zo205 ?_ | refine Mine.anE zo205 ?_); intro o zo207; clear zo205; (first | refine Mine.exE zo207 ?_ | refine Mine.anE zo207 ?_); intro ho zo208; clear zo207; (first | refine Mine.exE zo208 ?_ | refine Mine.anE zo208 ?_); intro hc hd; clear zo208; unfold gk209; clear gk209)
  exact ⟨o, ho, iter_of hc hd (by decide) rfl (fun _ _ h => nomatch h)⟩
 ·intro b hb
  rcases List.mem_cons.mp hb with rfl | hb
  ·exact .inl rfl
  ·rw [List.mem_singleton.mp hb]; exact .inr (.inr ⟨_, fun c => List.mem_append.mpr (.inr hl)⟩)
 ·have e : (vs.length : Int) - 1 - ((0 : Nat) : Int) = (vs.length : Int) - 1 := by omega
  rw [e]; exact hit
 ·intro c i v u h tk oI hi hv ho hc F' N'
  exact turn c i v u h tk oI hi (by simpa using hv) ho hc F' N'
end
end Mine
end
section
namespace Mine
theorem div_step (x y n j : Nat) (hy : 0 < y) :
  let A' := x / 2 ^ (n * (j + 1)); let A := x / 2 ^ (n * j); let d := A % 2 ^ n; let m := A' % y * 2 ^ n + d
  m / y < 2 ^ n ∧ A / y = m / y + 2 ^ n * (A' / y) ∧ A % y = m % y := by
 intro A' A d m
 have e1 : A' = A / 2 ^ n := by show x / 2 ^ (n * (j + 1)) = x / 2 ^ (n * j) / 2 ^ n; rw [Nat.div_div_eq_div_mul, ← Nat.pow_add, Nat.mul_succ]
 have e2 : A = A' * 2 ^ n + d := by rw [e1, Nat.mul_comm]; exact (Nat.div_add_mod A (2 ^ n)).symm
 have e3 : A' = y * (A' / y) + A' % y := (Nat.div_add_mod A' y).symm
 have hd : d < 2 ^ n := Nat.mod_lt _ (Nat.two_pow_pos n)
 have hr : A' % y < y := Nat.mod_lt _ hy
 have hm : m < y * 2 ^ n := by
  have h1 : A' % y + 1 ≤ y := hr
  have h2 := Nat.mul_le_mul_right (2 ^ n) h1
  rw [Nat.add_mul, Nat.one_mul] at h2
  show A' % y * 2 ^ n + d < y * 2 ^ n
  omega
 have e4 : A = m + y * (2 ^ n * (A' / y)) := by
  have : A' * 2 ^ n = y * (A' / y) * 2 ^ n + A' % y * 2 ^ n := by rw [← Nat.add_mul, ← e3]
  show A = A' % y * 2 ^ n + d + y * (2 ^ n * (A' / y))
  rw [e2, this, Nat.mul_assoc y, Nat.mul_comm (A' / y)]; omega
 refine ⟨Nat.div_lt_of_lt_mul hm, ?_, ?_⟩
 ·rw [e4, Nat.add_mul_div_left _ _ hy]
 ·rw [e4, Nat.add_mul_mod_self_left]
theorem digits_len (x n : Nat) : (digitsL x n).length = (Builtin.Int.intBits (x : Int) + n - 1) / n := by simp [digitsL]
theorem digits_top (x n : Nat) (hn : 0 < n) : x < 2 ^ (n * (digitsL x n).length) := by
 rw [digits_len]
 exact Nat.lt_of_lt_of_le (lt_bits x) (Nat.pow_le_pow_right (by decide) (ceil_le hn))
theorem digits_at {x n i : Nat} {v : Int} (h : (digitsL x n)[i]? = some v) : v = ((x / 2 ^ (n * i) % 2 ^ n : Nat) : Int) := by
 unfold digitsL at h
 rw [List.getElem?_map] at h
 cases hq : (List.range ((Builtin.Int.intBits (x : Int) + n - 1) / n))[i]? with
 | none => rw [hq] at h; cases h
 | some k =>
  rw [hq] at h
  have := List.getElem?_eq_some_iff.mp hq
  obtain ⟨h1, h2⟩ := this
  rw [List.getElem_range] at h2
  subst h2
  exact (Option.some.inj h).symm
theorem digits_short {x n : Nat} (hn : 0 < n) (hx : Builtin.Int.intBits (x : Int) ≤ 200) : (digitsL x n).length ≤ 200 := by
 rw [digits_len]
 refine Nat.div_le_of_le_mul ?_
 have : n * 200 = 199 * n + n := by omega
 have : 1 * 199 ≤ n * 199 := Nat.mul_le_mul_right _ hn
 omega
theorem ints_snoc {vs : List Value} {ds : List Nat} (h : IntsAre vs (ds.map fun (d : Nat) => ((d : Nat) : Int))) (q : Nat) (t : Tok) : IntsAre (vs ++ [Value.int (q : Int) t]) ((ds ++ [q]).map fun (d : Nat) => ((d : Nat) : Int)) := by
 rw [List.map_append]
 generalize ds.map (fun (d : Nat) => ((d : Nat) : Int)) = ns at *
 induction h with
 | nil => exact .cons _ _ .nil
 | cons k t' _ ih => exact .cons k t' ih
theorem ints_item {vs : List Value} {ns : List Int} (h : IntsAre vs ns) {i : Nat} {v : Value} (hv : vs[i]? = some v) : ∃ k t, ns[i]? = some k ∧ v = .int k t := by
 induction h generalizing i with
 | nil => simp at hv
 | cons k t h ih =>
  cases i with
  | zero => simp at hv; exact ⟨k, t, rfl, hv.symm⟩
  | succ i => exact ih (by simpa using hv)
end Mine
section
set_option maxHeartbeats 8000000 in
theorem Mine.divpos_c (w : World) (x y : Nat) (hy : 0 < y) (hx : Builtin.Int.intBits (x : Int) ≤ 200) (hy2 : Builtin.Int.intBits (y : Int) ≤ 200) (t u : Tok) :
  Mine.CtrT w 92 400 6000 [.int (x : Nat) t, .int (y : Nat) u] (fun r tl => ∃ T t1 t2, r = .ref T ∧ tl = [(T, Mine.tup2 (.int ((x / y : Nat) : Int) t1) (.int ((x % y : Nat) : Int) t2))]) := by
 k_with_none
 k_with "storeName" => (k_here; (with_reducible show wpAny _ _ (storeName _ _ _) _ _ _); k_dflt (refine' Mine.storeF ?Fw47 ?Nw47 ?_ ?aw47 ?bw47; (case Fw47 => k_asm); (case Nw47 => k_asm); (case aw47 => exact Eq.refl ScopeKind.function); (case bw47 => exact Eq.refl (some NameKind.local)); k_whole; intro h7s m7s F7s N7s; (try k_sweep)))
 k_with "eval Name" => (k_here; (with_reducible show wpAny _ _ (eval (Expr.Name _ _) _) _ _ _); k_dflt (refine' nameX_L ?Fw48 ?vw48 ?_ ?aw48 ?bw48; (case Fw48 => k_asm); (case aw48 => exact Eq.refl ScopeKind.function); (case bw48 => exact Eq.refl (some NameKind.local)); (case vw48 => exact Eq.refl (some _)); k_whole))
 k_with "call ref" => (k_here; refine Mine.stop ?_)
 k_with "pyIter ref" => (k_here; refine Mine.stop ?_)
 k_with "call builtin:list.append" => (k_here; (with_reducible show wpAny _ _ (call (Value.builtin _) [Value.ref _, _]) _ _ _); k_dflt (refine' append_K ?k1w51 ?k2w51 ?k3w51 ?_ ?zw51; (case k1w51 => k_asm); (case k2w51 => k_asm); (case k3w51 => (first | (refine' Upd.head ?kh3w51; (case kh3w51 => (repeat' (first | (with_reducible assumption) | exact List.forall_mem_nil _ | (refine List.forall_mem_cons.mpr ⟨(by (first | (with_reducible assumption) | exact Nat.ne_of_lt (by with_reducible assumption) | exact Nat.ne_of_gt (by with_reducible assumption) | exact Ne.symm (by with_reducible assumption) | k_ne)), ?_⟩))))) | (refine' Upd.tail ?ka3w51 ?kb3w51; (case ka3w51 => (first | (with_reducible assumption) | exact Nat.ne_of_lt (by with_reducible assumption) | exact Nat.ne_of_gt (by with_reducible assumption) | exact Ne.symm (by with_reducible assumption) | k_ne)); (case kb3w51 => (first | (refine' Upd.head ?kh2w51; (case kh2w51 => (repeat' (first | (with_reducible assumption) | exact List.forall_mem_nil _ | (refine List.forall_mem_cons.mpr ⟨(by (first | (with_reducible assumption) | exact Nat.ne_of_lt (by with_reducible assumption) | exact Nat.ne_of_gt (by with_reducible assumption) | exact Ne.symm (by with_reducible assumption) | k_ne)), ?_⟩))))) | (refine' Upd.tail ?ka2w51 ?kb2w51; (case ka2w51 => (first | (with_reducible assumption) | exact Nat.ne_of_lt (by with_reducible assumption) | exact Nat.ne_of_gt (by with_reducible assumption) | exact Ne.symm (by with_reducible assumption) | k_ne)); (case kb2w51 => (first | (refine' Upd.head ?kh1w51; (case kh1w51 => (repeat' (first | (with_reducible assumption) | exact List.forall_mem_nil _ | (refine List.forall_mem_cons.mpr ⟨(by (first | (with_reducible assumption) | exact Nat.ne_of_lt (by with_reducible assumption) | exact Nat.ne_of_gt (by with_reducible assumption) | exact Ne.symm (by with_reducible assumption) | k_ne)), ?_⟩))))) | (refine' Upd.tail ?ka1w51 ?kb1w51; (case ka1w51 => (first | (with_reducible assumption) | exact Nat.ne_of_lt (by with_reducible assumption) | exact Nat.ne_of_gt (by with_reducible assumption) | exact Ne.symm (by with_reducible assumption) | k_ne)); (case kb1w51 => (fail))))))))))); (case zw51 => first | size_fits | (refine Nat.le_trans (m := 100000) (by simp only [List.size_toArray]; omega) (by decide))); k_whole); intro h' F' N')
 k_with "call ref" => (k_here; (with_reducible show wpAny _ _ (call (Value.ref 64) _) _ _ _); walk_at "f"; k_dflt (refine' Mine.div2n_c _ _ _ _ ?c1w52 ?c2w52 ?c3w52 _ _ _ _ _ _ _ _ _ _ _ _ _ _ _ _ _ _ _ _ _ _ _ _ _ _ ?kBw52 ?kFw52 ?kXw52 ?kNw52 ?kTw52 ?kKw52 ?kPw52 ?kdw52 ?kuw52 ?_; (case kBw52 => k_asm); (case kFw52 => k_asm); (case kXw52 => k_asm); (case kNw52 => k_asm); (case kTw52 => k_asm); (case kKw52 => first | exact rfl | assumption); (case kPw52 => trivial); (case kdw52 => first | exact Mine.oDp (by with_reducible assumption) (by exact rfl) | exact Mine.oDq (by with_reducible assumption) (by exact rfl) | omega | ktr_room); (case kuw52 => first | exact Mine.oDp (by with_reducible assumption) (by exact rfl) | exact Mine.oDq (by with_reducible assumption) (by exact rfl) | omega | ktr_units); (case c1w52 => with_reducible assumption); (case c2w52 => with_reducible assumption); (case c3w52 => with_reducible assumption); k_whole); intro v9 tl9 h9 tk9 hp9 F9 N9; (try dsimp only at hp9); ((refine Mine.foldG ?_; intro gk213; (first | refine Mine.exE hp9 ?_ | refine Mine.anE hp9 ?_); intro T9 zo210; clear hp9; (first | refine Mine.exE zo210 ?_ | refine Mine.anE zo210 ?_); intro u1 zo211; clear zo210; (first | refine Mine.exE zo211 ?_ | refine Mine.anE zo211 ?_); intro u2 zo212; clear zo211; (first | refine Mine.exE zo212 ?_ | refine Mine.anE zo212 ?_); intro e1 e2; clear zo212; unfold gk213; clear gk213); cases e1; cases e2); (try dsimp only [List.nil_append, List.cons_append] at N9); (try dsimp only); walk_at "f")
 k_with "binaryOp LShift int int" => (k_here; k_dflt (refine' lshift_int ?k1w53 ?k2w53 ?_; (case k1w53 => exact Int.natCast_nonneg _); (case k2w53 => exact hsz); k_whole); simp only [hsl])
 k_with "binaryOp Add int int" => (k_here; k_dflt (refine' add_int ?_; k_whole); simp only [hadd])
 (refine Mine.nameE (a := Builtin.Int.intBits (y : Int)) ?_; intro n hn)
 have hn1 : 1 ≤ n := by rw [hn]; exact Mine.bits_pos (by omega)
 have hyn : y < 2 ^ n := by rw [hn]; exact Mine.lt_bits y
 have hd1000 : y < 2 ^ 1000 := Nat.lt_of_lt_of_le hyn (Nat.pow_le_pow_right (by decide) (by omega))
 ((try unfold Mine.CtrT); unfold Mine.CtrL; k_fill; intro p loose mean mg mb dp un gd cn cs a ccd cl outer A₀ base h₀ L m tI tD news0 s Q E B F X N hTI hTD hoff hpre T hk hd hu hret; (refine Mine.nameE (a := tI ++ (tD ++ news0)) ?_; intro news hnews); rw [← hnews] at N; refine wpAny_call ?_; k_dflt (refine' code_def (binds := [(Str.ofString "a", Value.int (x : Nat) t), (Str.ofString "b", Value.int (y : Nat) u)]) ?k1 ?k2 ?k3 ?k4 ?k5 ?kA ?kF ?kK ?k6 ?k7 ?k8 ?k9 ?kB ?_ ?c2 ?c3 ?c4 ?c5; (case kA => exact rfl); (case kF => exact rfl); (case kK => assumption); (case k1 => k_asm); (case k2 => k_asm); (case k3 => k_asm); (case k4 => k_asm); (case k5 => k_asm); (case k6 => k_is); (case k7 => k_is); (case k8 => ktr_room); (case k9 => first | exact BindsTo.of_eq (by kernel_rfl) | exact binds_K (by k_in) rfl (by k_is) rfl rfl rfl); (case c5 => decide); (case kB => exact locs rfl); (case c2 => exact rfl); (case c3 => exact rfl); (case c4 => exact rfl); k_whole; intro g' L' h' FG' F' N' B' X' T'; (try dsimp only); walk_at "f"))
 (replace F' : Fr g' L' h' (kstB (fun _ => none) [(Str.ofString "b", Value.int (y : Nat) u), (Str.ofString "a", Value.int (x : Nat) t)]) := Mine.fr_args F' rfl; dsimp only [kstB] at F'; simp only [List.length_cons, List.length_nil, Nat.zero_add]); (refine Mine.foldA ?_; intro ak)
 walk_at "~"
 unfold Mine.Stop
 (try k_unmd); (try dsimp only)
 rw [← hn]
 (first | (with_reducible rename News g' L' _ _ => hN3) | rename News g' L' _ _ => hN3)
 (first | (with_reducible rename Fr g' L' _ _ => hF3) | rename Fr g' L' _ _ => hF3)
 rw [hnews] at hN3
 k_dflt (refine' Mine.CtrL.use (Mine.i2d_c w x n ?c1 ?c2 ?c3 _ _) [] B' hF3 X' hN3 hTI hTD hoff (fun _ h => nomatch h) trivial T' rfl ?d ?u ?_)
 case c1 => exact hn1
 case c2 => omega
 case c3 => exact hx
 case d => ktr_room
 case u => ktr_units
 k_whole
 ((repeat ((with_reducible rename Fr g' L' _ _ => Fx9); clear Fx9)); (repeat ((with_reducible rename News g' L' _ _ => Nx9); clear Nx9)))
 intro v tl tI2 tD2 h2 tk2 hp hTI2 hTD2 htl F2 N2
 (refine Mine.foldG ?_; intro gk219; (first | refine Mine.exE hp ?_ | refine Mine.anE hp ?_); intro D zo214; clear hp; (first | refine Mine.exE zo214 ?_ | refine Mine.anE zo214 ?_); intro vs zo215; clear zo214; (first | refine Mine.exE zo215 ?_ | refine Mine.anE zo215 ?_); intro zo216 zo217; clear zo215; (first | refine Mine.exE zo217 ?_ | refine Mine.anE zo217 ?_); intro zo218 hvs; clear zo217; unfold gk219; clear gk219; subst zo216; subst zo218)
 (refine Mine.nameE (a := tI2 ++ (tD2 ++ news0)) ?_; intro news2 hnews2)
 rw [← hnews2] at N2
 dsimp only [List.cons_append, List.nil_append] at N2
 (try dsimp only)
 dsimp +zetaDelta only at F2
 rw [← hn] at F2
 walk_at "~"
 unfold Mine.Stop
 (try k_unmd); (try dsimp only)
 (first | (with_reducible rename News g' L' _ _ => hN4) | rename News g' L' _ _ => hN4)
 (first | (with_reducible rename Fr g' L' _ _ => hF4) | rename Fr g' L' _ _ => hF4)
 (first | (with_reducible rename _ ∧ _ ∧ AllLt _ _ => hlt) | rename _ ∧ _ ∧ AllLt _ _ => hlt)
 (first | (with_reducible rename _ ∧ AllLt _ _ => hlq) | rename _ ∧ AllLt _ _ => hlq)
 have hvl : vs.length = (Mine.digitsL x n).length := hvs.length
 have hv200 : vs.length ≤ 200 := by rw [hvl]; exact Mine.digits_short hn1 hx
 refine Mine.for_rev (σ := List Value × List Nat × Nat × Tok) (fun c => [(_, listOf c.1.toArray c.1.length)]) ((D, listOf vs.toArray 0) :: news2) (fun c => [(Str.ofString "r", .int (c.2.2.1 : Nat) c.2.2.2)]) [Str.ofString "q_digit"]
  (fun i c => c.2.1.length = i ∧ IntsAre c.1 (c.2.1.map fun (d : Nat) => ((d : Nat) : Int)) ∧ (∀ d ∈ c.2.1, d < 2 ^ n) ∧ Mine.valN n c.2.1.reverse = x / 2 ^ (n * (vs.length - i)) / y ∧ c.2.2.1 = x / 2 ^ (n * (vs.length - i)) % y) ([], [], 0, ?tk0) rfl (List.mem_cons_self ..) hF4 hN4 ?hoff ?hk ?hp ?turn ?done
 case hoff => exact List.forall_mem_cons.mpr ⟨Nat.ne_of_lt hlt.1, List.forall_mem_cons.mpr ⟨Nat.ne_of_lt hlt.2.1, Mine.allLt_ne2 hlt.2.2⟩⟩
 case hk => intro p hp; rcases List.mem_singleton.mp hp with rfl; rfl
 case hp =>
  have h0 : x / 2 ^ (n * (vs.length - 0)) = 0 := by
   rw [Nat.sub_zero, hvl]; exact Nat.div_eq_of_lt (Mine.digits_top x n hn1)
  refine ⟨rfl, .nil, (fun _ h => nomatch h), ?_, ?_⟩
  ·rw [h0]; simp [Mine.valN]
  ·rw [h0]; simp
 case turn =>
  ((repeat ((with_reducible rename Fr g' L' _ _ => Fx9); clear Fx9)); (repeat ((with_reducible rename News g' L' _ _ => Nx9); clear Nx9)))
  refine Mine.tq4 ?_
  intro qs ds r tr i v u2 h tk oI hi hv hoI hP F5 N5
  (try k_unmd); walk_at "f"
  (refine Mine.foldG ?_; intro gk223; (first | refine Mine.exE hP ?_ | refine Mine.anE hP ?_); intro hP1 zo220; clear hP; (first | refine Mine.exE zo220 ?_ | refine Mine.anE zo220 ?_); intro hP2 zo221; clear zo220; (first | refine Mine.exE zo221 ?_ | refine Mine.anE zo221 ?_); intro hP3 zo222; clear zo221; (first | refine Mine.exE zo222 ?_ | refine Mine.anE zo222 ?_); intro hP4 hP5; clear zo222; unfold gk223; clear gk223)
  (try dsimp only at hP1 hP2 hP3 hP4 hP5)
  (refine Mine.foldG ?_; intro gk227; (first | refine Mine.exE (Mine.ints_item hvs hv) ?_ | refine Mine.anE (Mine.ints_item hvs hv) ?_); intro dg zo224; (first | refine Mine.exE zo224 ?_ | refine Mine.anE zo224 ?_); intro td zo225; clear zo224; (first | refine Mine.exE zo225 ?_ | refine Mine.anE zo225 ?_); intro hdg zo226; clear zo225; unfold gk227; clear gk227; subst zo226)
  have hdg2 := Mine.digits_at hdg
  subst hdg2
  have hst := Mine.div_step x y n (vs.length - 1 - i) hy
  rw [show vs.length - 1 - i + 1 = vs.length - i by omega] at hst
  (try dsimp only at hst)
  generalize x / 2 ^ (n * (vs.length - 1 - i)) % 2 ^ n = dg at *
  rw [← hP5] at hst
  ((first | refine Mine.exE hst ?_ | refine Mine.anE hst ?_); intro hs1 zo228; clear hst; (first | refine Mine.exE zo228 ?_ | refine Mine.anE zo228 ?_); intro hs2 hs3; clear zo228)
  have hry : r < y := by rw [hP5]; exact Nat.mod_lt _ hy
  have hsl := Mine.mul_pow_nat r n
  have hadd : ((r * 2 ^ n : Nat) : Int) + (dg : Int) = ((r * 2 ^ n + dg : Nat) : Int) := by omega
  have hrn : r < 2 ^ n := Nat.lt_trans hry hyn
  have hsz : (Builtin.Int.intBits ((r : Nat) : Int) : Int) + (n : Int) ≤ 2 ^ 27 := by
   have := Mine.bits_lt hrn
   omega
  have hq1 := hd1000
  have hq2 : r * 2 ^ n + dg < 2 ^ 1000 := by
   have h1 : r * 2 ^ n + dg < y * 2 ^ n := by
    have := (Nat.div_lt_iff_lt_mul hy).mp hs1
    rw [Nat.mul_comm y]; exact this
   have h2 : y * 2 ^ n ≤ 2 ^ n * 2 ^ n := Nat.mul_le_mul_right _ (Nat.le_of_lt hyn)
   rw [← Nat.pow_add] at h2
   exact Nat.lt_of_lt_of_le h1 (Nat.le_trans h2 (Nat.pow_le_pow_right (by decide) (by omega)))
  dsimp only [kstB] at F5
  dsimp only [List.cons_append, List.nil_append] at N5
  (try k_unmd); walk_at "f"
  walk_at "~"
  (first | (with_reducible rename News g' L' _ _ => hN5) | rename News g' L' _ _ => hN5)
  (first | (with_reducible rename Fr g' L' _ _ => hF5) | rename Fr g' L' _ _ => hF5)
  have hqs : qs.length = i := by rw [hP2.length]; simpa using hP1
  refine Mine.app_drop hF5 hN5 (List.forall_mem_cons.mpr ⟨Nat.ne_of_gt hlt.1, List.forall_mem_cons.mpr ⟨Nat.ne_of_lt hlq.1, Mine.allLt_ne2 hlq.2⟩⟩) ?_ (by simp; omega)
  clear hN5 hF5
  intro h6 F6 N6
  walk_at "~"
  rw [Mine.app_obj] at N6
  have hidx : vs.length - (i + 1) = vs.length - 1 - i := by omega
  have hans : Mine.valN n (ds ++ [(r * 2 ^ n + dg) / y]).reverse = x / 2 ^ (n * (vs.length - (i + 1))) / y := by
   rw [hidx, hs2, ← hP4]; simp [Mine.valN]
  ((try dsimp only); (try k_unmd); (try k_unfold); (try unfold Mine.LpPost); (try dsimp only); (first | (with_reducible rename Fr g' L' _ _ => hF9) | rename Fr g' L' _ _ => hF9); (first | (with_reducible rename News g' L' _ _ => hN9) | rename News g' L' _ _ => hN9); refine Mine.lp_end (qs ++ [Value.int (((r * 2 ^ n + dg) / y : Nat) : Int) ?u9], ds ++ [(r * 2 ^ n + dg) / y], (r * 2 ^ n + dg) % y, ?v9) hF9 hN9 ?z54n ?z54i ?z54o ?z54k ?z54r ?z54p; (case z54k => walk_at "h"); (case z54n => first | (k_whole; (walk_at "n"); done) | kst_in); (case z54i => k_mem); (case z54o => first | exact List.forall_mem_nil _ | (intro p hp; rcases List.mem_singleton.mp hp with rfl; first | exact Mine.td_iter (by assumption) | exact Mine.td_isIter (by assumption)) | simp [Mine.isIter, Mine.iterNames, W.listOf]); (case z54r => walk_at "o"); (case z54p => exact ⟨by simp [hP1], Mine.ints_snoc hP2 _ _, (by intro d hd; rcases List.mem_append.mp hd with hd | hd; exact hP3 d hd; rw [List.mem_singleton.mp hd]; exact hs1), hans, by rw [hidx, hs3]⟩))
 case done =>
  ((repeat ((with_reducible rename Fr g' L' _ _ => Fx9); clear Fx9)); (repeat ((with_reducible rename News g' L' _ _ => Nx9); clear Nx9)))
  refine Mine.tq4 ?_
  intro qs ds r tr u2 h tk hP F5 N5
  (try k_unmd); walk_at "f"
  (refine Mine.foldG ?_; intro gk232; (first | refine Mine.exE hP ?_ | refine Mine.anE hP ?_); intro hP1 zo229; clear hP; (first | refine Mine.exE zo229 ?_ | refine Mine.anE zo229 ?_); intro hP2 zo230; clear zo229; (first | refine Mine.exE zo230 ?_ | refine Mine.anE zo230 ?_); intro hP3 zo231; clear zo230; (first | refine Mine.exE zo231 ?_ | refine Mine.anE zo231 ?_); intro hP4 hP5; clear zo231; unfold gk232; clear gk232)
  (try dsimp only at hP1 hP2 hP3 hP4 hP5)
  rw [Nat.sub_self, Nat.mul_zero, Nat.pow_zero, Nat.div_one] at hP4 hP5
  dsimp only [kstB] at F5
  dsimp only [List.cons_append, List.nil_append] at N5
  (try k_unmd); walk_at "f"
  ((first | refine Mine.exE hlq ?_ | refine Mine.anE hlq ?_); intro hoq1 hoq2; clear hlq)
  have hoq3 := Mine.allLt_ne2 hoq2
  have hds200 : ds.length ≤ 200 := by omega
  walk_at "~"
  (first | (with_reducible rename News g' L' _ _ => hN5) | rename News g' L' _ _ => hN5)
  (first | (with_reducible rename Fr g' L' _ _ => hF5) | rename Fr g' L' _ _ => hF5)
  refine reverse_head_ints (ns := ds.map fun (d : Nat) => ((d : Nat) : Int)) hF5 hN5 (List.forall_mem_cons.mpr ⟨Nat.ne_of_lt hoq1, hoq3⟩) (by simpa using hP2) ?_ (by rw [List.length_map, sizeLine_eq]; omega)
  clear hN5 hF5
  intro h6 F6 N6 hrv
  simp only [List.toList_toArray] at N6 hrv
  rw [← List.map_reverse] at hrv
  walk_at "~"
  unfold Mine.Stop
  (try k_unmd); (try dsimp only)
  (first | (with_reducible rename News g' L' _ _ => hN5) | rename News g' L' _ _ => hN5)
  (first | (with_reducible rename Fr g' L' _ _ => hF5) | rename Fr g' L' _ _ => hF5)
  rw [hnews2] at hN5
  k_dflt (refine' Mine.CtrL.use (Mine.d2i_c w _ qs.reverse qs.length ds.reverse n hn1 ?c2 hrv ?c3 ?c4 _) [_, _] B' hF5 X' hN5 hTI2 hTD2 hoff ?xs ?pre T' rfl ?d ?u ?_)
  case c2 => omega
  case c3 => intro d hd; exact hP3 d (List.mem_reverse.mp hd)
  case c4 => rw [List.length_reverse]; omega
  case xs => exact List.forall_mem_cons.mpr ⟨.inl (by simp), List.forall_mem_cons.mpr ⟨.inl (by simp [W.listOf]), List.forall_mem_nil _⟩⟩
  case pre => exact List.mem_cons_self ..
  case d => ktr_room
  case u => ktr_units
  k_whole
  ((repeat ((with_reducible rename Fr g' L' _ _ => Fx9); clear Fx9)); (repeat ((with_reducible rename News g' L' _ _ => Nx9); clear Nx9)))
  intro v tl tI3 tD3 h7 tk7 hp hTI3 hTD3 htl3 F7 N7
  ((first | refine Mine.exE hp ?_ | refine Mine.anE hp ?_); intro tv zo233; clear hp; (first | refine Mine.exE zo233 ?_ | refine Mine.anE zo233 ?_); intro zo234 zo235; clear zo233; subst zo234; subst zo235)
  dsimp only [List.cons_append, List.nil_append] at N7
  (refine Mine.nameE (a := tI3 ++ (tD3 ++ news0)) ?_; intro news3 hnews3)
  rw [← hnews3] at N7
  rw [hP4]
  (try dsimp only)
  walk_at "~"
  (first | (with_reducible rename News h₀ L _ _ => hN9) | rename News h₀ L _ _ => hN9)
  (first | (with_reducible rename Fr h₀ L _ _ => hF9) | rename Fr h₀ L _ _ => hF9)
  rw [hP5, hnews3] at hN9
  refine hret _ [(_, Mine.tup2 _ _)] tI3 tD3 _ _ ⟨_, _, _, rfl, rfl⟩ hTI3 hTD3 (List.forall_mem_cons.mpr ⟨Mine.off_new (n0 := news0) hN9 (List.mem_cons_self ..) hTI3 hTD3 (by (walk_at "n")) (.inl (by simp)), List.forall_mem_nil _⟩) hF9 (Mine.news_re hN9 (by (walk_at "n")))
end
end
section
section
set_option maxHeartbeats 8000000 in
theorem Mine.idiv_c (w : World) (x y : Nat) (hy : 0 < y) (hx : Builtin.Int.intBits (x : Int) ≤ 200) (hy2 : Builtin.Int.intBits (y : Int) ≤ 200) (t u : Tok) :
  Mine.CtrT w 99 410 6200 [.int (x : Nat) t, .int (y : Nat) u] (fun r tl => ∃ T t1 t2, r = .ref T ∧ tl = [(T, Mine.tup2 (.int ((x / y : Nat) : Int) t1) (.int ((x % y : Nat) : Int) t2))]) := by
 k_with_none
 k_with "storeName" => (k_here; (with_reducible show wpAny _ _ (storeName _ _ _) _ _ _); k_dflt (refine' Mine.storeF ?Fw55 ?Nw55 ?_ ?aw55 ?bw55; (case Fw55 => k_asm); (case Nw55 => k_asm); (case aw55 => exact Eq.refl ScopeKind.function); (case bw55 => exact Eq.refl (some NameKind.local)); k_whole; intro h7s m7s F7s N7s; (try k_sweep)))
 k_with "eval Name" => (k_here; (with_reducible show wpAny _ _ (eval (Expr.Name _ _) _) _ _ _); k_dflt (refine' nameX_L ?Fw56 ?vw56 ?_ ?aw56 ?bw56; (case Fw56 => k_asm); (case aw56 => exact Eq.refl ScopeKind.function); (case bw56 => exact Eq.refl (some NameKind.local)); (case vw56 => exact Eq.refl (some _)); k_whole))
 k_with "call ref" => (k_here; refine Mine.stop ?_)
 ((try unfold Mine.CtrT); unfold Mine.CtrL; k_fill; intro p loose mean mg mb dp un gd cn cs a ccd cl outer A₀ base h₀ L m tI tD news0 s Q E B F X N hTI hTD hoff hpre T hk hd hu hret; (refine Mine.nameE (a := tI ++ (tD ++ news0)) ?_; intro news hnews); rw [← hnews] at N; refine wpAny_call ?_; k_dflt (refine' code_def (binds := [(Str.ofString "a", Value.int (x : Nat) t), (Str.ofString "b", Value.int (y : Nat) u)]) ?k1 ?k2 ?k3 ?k4 ?k5 ?kA ?kF ?kK ?k6 ?k7 ?k8 ?k9 ?kB ?_ ?c2 ?c3 ?c4 ?c5; (case kA => exact rfl); (case kF => exact rfl); (case kK => assumption); (case k1 => k_asm); (case k2 => k_asm); (case k3 => k_asm); (case k4 => k_asm); (case k5 => k_asm); (case k6 => k_is); (case k7 => k_is); (case k8 => ktr_room); (case k9 => first | exact BindsTo.of_eq (by kernel_rfl) | exact binds_K (by k_in) rfl (by k_is) rfl rfl rfl); (case c5 => decide); (case kB => exact locs rfl); (case c2 => exact rfl); (case c3 => exact rfl); (case c4 => exact rfl); k_whole; intro g' L' h' FG' F' N' B' X' T'; (try dsimp only); walk_at "f"))
 (replace F' : Fr g' L' h' (kstB (fun _ => none) [(Str.ofString "b", Value.int (y : Nat) u), (Str.ofString "a", Value.int (x : Nat) t)]) := Mine.fr_args F' rfl; dsimp only [kstB] at F'; simp only [List.length_cons, List.length_nil, Nat.zero_add]); (refine Mine.foldA ?_; intro ak)
 walk_at "~"
 ·unfold Mine.Stop
  (try k_unmd); (try dsimp only)
  with_reducible rename News g' L' _ _ => hN3
  with_reducible rename Fr g' L' _ _ => hF3
  rw [hnews] at hN3
  k_dflt (refine' Mine.CtrL.use (Mine.divpos_c w x y hy hx hy2 _ _) [] B' hF3 X' hN3 hTI hTD hoff (fun _ h => nomatch h) trivial T' rfl ?d ?u ?_)
  case d => ktr_room
  case u => ktr_units
  k_whole
  ((repeat ((with_reducible rename Fr g' L' _ _ => Fx9); clear Fx9)); (repeat ((with_reducible rename News g' L' _ _ => Nx9); clear Nx9)))
  intro v tl tI3 tD3 h7 tk7 hp hTI3 hTD3 htl3 F7 N7
  (refine Mine.foldG ?_; intro gk241; (first | refine Mine.exE hp ?_ | refine Mine.anE hp ?_); intro TT zo236; clear hp; (first | refine Mine.exE zo236 ?_ | refine Mine.anE zo236 ?_); intro u1 zo237; clear zo236; (first | refine Mine.exE zo237 ?_ | refine Mine.anE zo237 ?_); intro u2 zo238; clear zo237; (first | refine Mine.exE zo238 ?_ | refine Mine.anE zo238 ?_); intro zo239 zo240; clear zo238; unfold gk241; clear gk241; subst zo239; subst zo240)
  dsimp only [List.cons_append, List.nil_append] at N7
  (try dsimp only)
  walk_at "~"
  with_reducible rename News h₀ L _ _ => hN9
  with_reducible rename Fr h₀ L _ _ => hF9
  exact hret _ [(_, Mine.tup2 _ _)] tI3 tD3 _ _ ⟨_, _, _, rfl, rfl⟩ hTI3 hTD3 htl3 hF9 (Mine.news_re hN9 (by (walk_at "n")))
end
end
section
namespace Mine
noncomputable abbrev tup3 (x y z : Value) : Obj := { cls := .type "tuple", data := .seq #[x, y, z] }
noncomputable def ShAre (S : List (Nat × Nat × Nat)) (us : List Value) (os : List (Addr × Obj)) : Prop :=
 us.length = S.length ∧ (∀ p ∈ os, ∃ x y z, p.2 = tup3 x y z) ∧ ∀ (i : Nat) (q : Nat × Nat × Nat), S[i]? = some q → ∃ (T : Addr) (t1 t2 t3 : Tok), us[i]? = some (Value.ref T) ∧ (T, tup3 (.int (q.1 : Nat) t1) (.int (q.2.1 : Nat) t2) (.int (q.2.2 : Nat) t3)) ∈ os
theorem ShAre.nil : ShAre [] [] [] := ⟨rfl, fun _ h => (nomatch h), fun i q h => by simp at h⟩
theorem ShAre.snoc {S : List (Nat × Nat × Nat)} {us : List Value} {os : List (Addr × Obj)} (h : ShAre S us os) (a b c : Nat) (T : Addr) (t1 t2 t3 : Tok) :
  ShAre (S ++ [(a, b, c)]) (us ++ [.ref T]) ((T, tup3 (.int (a : Nat) t1) (.int (b : Nat) t2) (.int (c : Nat) t3)) :: os) := by
 obtain ⟨h1, h2, h3⟩ := h
 refine ⟨by simp [h1], fun p hp => ?_, fun i q hq => ?_⟩
 ·rcases List.mem_cons.mp hp with rfl | hp
  ·exact ⟨_, _, _, rfl⟩
  ·exact h2 p hp
 ·by_cases hi : i < S.length
  ·rw [List.getElem?_append_left hi] at hq
   obtain ⟨T', u1, u2, u3, e1, e2⟩ := h3 i q hq
   exact ⟨T', u1, u2, u3, by rw [List.getElem?_append_left (by omega)]; exact e1, List.mem_cons_of_mem _ e2⟩
  ·rw [List.getElem?_append_right (by omega)] at hq
   have hi2 : i - S.length = 0 := by
    have := (List.getElem?_eq_some_iff.mp hq).1
    simp at this; omega
   rw [hi2] at hq
   cases hq
   exact ⟨T, t1, t2, t3, by rw [List.getElem?_append_right (by omega), h1, hi2]; rfl, List.mem_cons_self ..⟩
theorem ShAre.own {S : List (Nat × Nat × Nat)} {us : List Value} {os : List (Addr × Obj)} (h : ShAre S us os) : ∀ p ∈ os, okOwn p.2 = true := fun p hp => by
 obtain ⟨x, y, z, e⟩ := h.2.1 p hp
 rw [e]; rfl
theorem ShAre.off {S : List (Nat × Nat × Nat)} {us vs : List Value} {os l : List (Addr × Obj)} {h₀ h : Heap} {L D : Addr} {n : Nat} (x : ShAre S us os) (N : News h₀ L h l) (hD : (D, W.listOf vs.toArray n) ∈ l) (hos : ∀ p ∈ os, p ∈ l) : ∀ p ∈ os, p.1 ≠ D := fun p hp e => by
 obtain ⟨a, b, c, e2⟩ := x.2.1 p hp
 have e3 := (N p (hos p hp)).1
 have e4 := (N _ hD).1
 rw [e] at e3; rw [e3] at e4; rw [e2] at e4
 have e5 := congrArg Obj.cls (Option.some.inj e4)
 simp [W.listOf] at e5
end Mine
section
set_option maxHeartbeats 8000000 in
theorem Mine.shares_c (w : World) (k : Nat) (t : Tok) (hk9 : k ≤ 20) :
  Mine.Ctr w 130 10 200 [.int (k : Nat) t] (fun _ => True) (fun r tl => ∃ D us os, r = .ref D ∧ tl = (D, listOf us.toArray us.length) :: os ∧ Mine.ShAre (Mine.sharesL k) us os) := by
 k_with_none
 k_with "storeName" => (k_here; (with_reducible show wpAny _ _ (storeName _ _ _) _ _ _); k_dflt (refine' Mine.storeF ?Fw58 ?Nw58 ?_ ?aw58 ?bw58; (case Fw58 => k_asm); (case Nw58 => k_asm); (case aw58 => exact Eq.refl ScopeKind.function); (case bw58 => exact Eq.refl (some NameKind.local)); k_whole; intro h7s m7s F7s N7s; (try k_sweep)))
 k_with "eval Name" => (k_here; (with_reducible show wpAny _ _ (eval (Expr.Name _ _) _) _ _ _); k_dflt (refine' nameX_L ?Fw59 ?vw59 ?_ ?aw59 ?bw59; (case Fw59 => k_asm); (case aw59 => exact Eq.refl ScopeKind.function); (case bw59 => exact Eq.refl (some NameKind.local)); (case vw59 => exact Eq.refl (some _)); k_whole))
 k_with "eval ListComp" => (k_here; k_dflt (refine' Mine.comp_eval ?_ ?c1w60 ?c2w60 ?c3w60; (case c1w60 => rfl); (case c2w60 => rfl); (case c3w60 => decide); k_whole))
 k_with "eval Name" => (k_here; (with_reducible show wpAny _ _ (eval (PySem.Expr.Name _ _) (compEnvC _ _ _ _)) _ _ _); k_dflt (first
 | (refine' Mine.cname_L ?k1w61 ?k2w61 ?k3w61 ?k4w61 ?_ ?k5w61 ?k6w61 ?k7w61; (case k6w61 => rfl); (case k5w61 => rfl); (case k7w61 => decide); (case k1w61 => k_asm); (case k3w61 => assumption); (case k2w61 => k_mem); (case k4w61 => exact rfl); k_whole)
 | (refine' Mine.cname_C ?k1w61 ?k2w61 ?k3w61 ?k4w61 ?_ ?k5w61 ?k6w61 ?k7w61; (case k6w61 => rfl); (case k5w61 => rfl); (case k7w61 => decide); (case k2w61 => rfl); (case k1w61 => k_asm); (case k3w61 => k_mem); (case k4w61 => k_asm); k_whole)
 | (refine' Mine.cname_G ?k1w61 ?k2w61 ?k3w61 ?k4w61 ?_ ?k5w61 ?k6w61 ?k7w61 ?k8w61; (case k7w61 => rfl); (case k6w61 => rfl); (case k5w61 => rfl); (case k8w61 => decide); (case k1w61 => k_asm); (case k2w61 => k_asm); (case k3w61 => k_asm); (case k4w61 => k_is); k_whole)
 | (refine' Mine.cname_B ?k1w61 ?k2w61 ?k3w61 ?k4w61 ?k5w61 ?k6w61 ?_ ?k7w61 ?k8w61 ?k9w61 ?k10w61 ?k11w61; (case k10w61 => rfl); (case k9w61 => rfl); (case k7w61 => rfl); (case k8w61 => rfl); (case k11w61 => decide); (case k1w61 => k_asm); (case k2w61 => k_asm); (case k3w61 => k_asm); (case k4w61 => k_is); (case k5w61 => boot_by_name); (case k6w61 => decide); k_whole)))
 k_with "call builtin:list.append" => (k_here; (with_reducible show wpAny _ _ (call (Value.builtin _) [Value.ref _, _]) _ _ _); k_dflt (refine' append_K ?k1w62 ?k2w62 ?k3w62 ?_ ?zw62; (case k1w62 => k_asm); (case k2w62 => k_asm); (case k3w62 => (first | (refine' Upd.head ?kh3w62; (case kh3w62 => (repeat' (first | (with_reducible assumption) | exact List.forall_mem_nil _ | (refine List.forall_mem_cons.mpr ⟨(by (first | (with_reducible assumption) | exact Nat.ne_of_lt (by with_reducible assumption) | exact Nat.ne_of_gt (by with_reducible assumption) | exact Ne.symm (by with_reducible assumption) | k_ne)), ?_⟩))))) | (refine' Upd.tail ?ka3w62 ?kb3w62; (case ka3w62 => (first | (with_reducible assumption) | exact Nat.ne_of_lt (by with_reducible assumption) | exact Nat.ne_of_gt (by with_reducible assumption) | exact Ne.symm (by with_reducible assumption) | k_ne)); (case kb3w62 => (first | (refine' Upd.head ?kh2w62; (case kh2w62 => (repeat' (first | (with_reducible assumption) | exact List.forall_mem_nil _ | (refine List.forall_mem_cons.mpr ⟨(by (first | (with_reducible assumption) | exact Nat.ne_of_lt (by with_reducible assumption) | exact Nat.ne_of_gt (by with_reducible assumption) | exact Ne.symm (by with_reducible assumption) | k_ne)), ?_⟩))))) | (refine' Upd.tail ?ka2w62 ?kb2w62; (case ka2w62 => (first | (with_reducible assumption) | exact Nat.ne_of_lt (by with_reducible assumption) | exact Nat.ne_of_gt (by with_reducible assumption) | exact Ne.symm (by with_reducible assumption) | k_ne)); (case kb2w62 => (first | (refine' Upd.head ?kh1w62; (case kh1w62 => (repeat' (first | (with_reducible assumption) | exact List.forall_mem_nil _ | (refine List.forall_mem_cons.mpr ⟨(by (first | (with_reducible assumption) | exact Nat.ne_of_lt (by with_reducible assumption) | exact Nat.ne_of_gt (by with_reducible assumption) | exact Ne.symm (by with_reducible assumption) | k_ne)), ?_⟩))))) | (refine' Upd.tail ?ka1w62 ?kb1w62; (case ka1w62 => (first | (with_reducible assumption) | exact Nat.ne_of_lt (by with_reducible assumption) | exact Nat.ne_of_gt (by with_reducible assumption) | exact Ne.symm (by with_reducible assumption) | k_ne)); (case kb1w62 => (fail))))))))))); (case zw62 => first | size_fits | (refine Nat.le_trans (m := 100000) (by simp only [List.size_toArray]; omega) (by decide))); k_whole); intro h' F' N')
 k_with "eval ListComp" => (k_here; k_dflt (refine' Mine.gen_eval ?_ ?c1w63 ?c2w63 ?c3w63; (case c1w63 => rfl); (case c2w63 => rfl); (case c3w63 => decide); k_whole))
 k_with "pyIter ref" => (k_here; refine Mine.stop ?_)
 (unfold Mine.Ctr; k_fill; intro p loose mean mg mb dp un gd cn cs a ccd cl outer A₀ base h₀ L m news s Q E B F X N T hk hpre hd hu hret; refine wpAny_call ?_; k_dflt (refine' code_defC ?k1 ?k2 ?k3 ?k4 ?k5 ?kA ?kF ?kK ?k6 ?k7 ?k8 ?k9 ?kB ?kD ?_ ?c2 ?c3 ?c4; (case kA => exact rfl); (case kF => exact rfl); (case kK => assumption); (case k1 => k_asm); (case k2 => k_asm); (case k3 => k_asm); (case k4 => k_asm); (case k5 => k_asm); (case k6 => k_is); (case k7 => k_is); (case k8 => ktr_room); (case k9 => first | exact BindsTo.of_eq rfl | exact binds_K (by k_in) rfl (by k_is) rfl rfl rfl); (case kB => exact rfl); (case kD => decide +kernel); (case c2 => exact rfl); (case c3 => exact rfl); (case c4 => exact rfl); k_whole; intro g' L' h' tk' cells' FG' F' N' Y' B' X' T' l1; k_cells Y'; (try dsimp only [List.cons_append, List.nil_append] at N'); (try dsimp only); walk_at "f"))
 with_reducible rename Obj => oK
 with_reducible rename Obj.data _ = Data.cell _ => hcd
 have hcd2 : _ = Data.cell (some (Value.int (k : Nat) t)) := hcd
 clear hcd
 walk_at "~"
 unfold Mine.Stop
 clear F N FG' X T B
 with_reducible rename IsRange _ _ _ _ _ _ _ _ => hR
 with_reducible rename Fr g' L' _ _ => hF
 with_reducible rename News g' L' _ _ => hN
 generalize hm0 : bindL _ _ = m0 at hF
 clear hm0
 refine Mine.gen_range (σ := List Value × List (Addr × Obj)) (rest := ?restz) (p := ?pz) (fun c => c.1) (fun c => c.1.length) (fun c => c.2) _ (fun i c => Mine.ShAre (Mine.sharesTo k i) c.1 c.2) ([], []) ?hT hF hN hR ?hn rfl rfl rfl ?hP ?hcell rfl rfl ?turn ?done
 case hT =>
  intro it acc cenv
  exact Mine.hT2 _ _ _ _ _ _ _ _ _ _
 case hn => omega
 case hP => exact Mine.ShAre.nil
 case hcell => decide
 case turn =>
  intro D C I
  refine Mine.tq2 ?_
  intro us os i ti h tk oI oC mC hDC hDl hi hoI hP hNC F5 N5
  (try k_unmd); walk_at "f"
  clear hF hN hR
  refine Mine.rest_N rfl (fun _ => rfl) ?_
  (try dsimp only at N5)
  replace N5 := Mine.news_re (l' := (D, listOf us.toArray us.length) :: (C, oC) :: (I, oI) :: (L' + 1, oK) :: (os ++ news)) N5 (by walk_at "n")
  (try k_unmd); walk_at "f"
  walk_at "~"
  unfold Mine.Stop
  with_reducible rename IsRange _ _ _ _ _ _ _ _ => hR2
  with_reducible rename Fr g' L' _ _ => hF2
  with_reducible rename News g' L' _ _ => hN2
  rw [show ((k : Int) - (i : Int)) = ((k - i : Nat) : Int) by omega] at hR2
  refine Mine.inner_range (σ := List Value × List (Addr × Obj)) (x := Str.ofString "b") (rest := ?restw) (px := ?pxw) (p := ?pw) (fun m => m (Str.ofString "a") = some (.int (i : Int) ti)) (fun c => (D, listOf c.1.toArray c.1.length) :: c.2) ((I, oI) :: (L' + 1, oK) :: news) (fun j c => Mine.ShAre (Mine.sharesIn k i j) c.1 c.2) (us, os) ?hTw hF2 ?hNw hNC ?hJ0 ?hJu ?hCt ?hCo hR2 ?hnw rfl ?hPw rfl rfl ?turnw ?donew
  case hTw =>
   intro it
   exact Mine.hT2' _ _ _ _ _ _ _ _ _ _
  case hJ0 => exact if_pos rfl
  case hJu => intro v mC h; exact (if_neg (by decide)).trans h
  case hnw => omega
  case hNw => exact Mine.news_re hN2 (by walk_at "n")
  case hCt =>
   intro p hp
   exact Nat.ne_of_lt (Nat.lt_trans (hDl p hp) hDC)
  case hCo => exact Mine.own_off hN2 hNC (by k_mem) (List.forall_mem_cons.mpr ⟨rfl, hP.own⟩) (by (walk_at "n"))
  case hPw => rw [Mine.sharesIn_zero]; exact hP
  case turnw =>
   ((repeat ((with_reducible rename Fr g' L' _ _ => Fx9); clear Fx9)); (repeat ((with_reducible rename News g' L' _ _ => Nx9); clear Nx9)))
   intro I2
   refine Mine.tq2 ?_
   intro us os j tj h tk oI2 oC mC hj hoI2 hPj hNC hJ F5 N5
   (try k_unmd); walk_at "f"
   clear hR2
   refine Mine.rest_E ?_
   (try dsimp only at N5 hPj)
   have hoff : ∀ p ∈ os ++ news, p.1 ≠ D := by
    intro p hp
    rcases List.mem_append.mp hp with hp | hp
    ·exact hPj.off N5 (List.mem_cons_self ..) (by intro p hp; walk_at "m") p hp
    ·exact Nat.ne_of_lt (hDl p (by walk_at "m"))
   have hus : us.length ≤ 420 := by rw [hPj.1]; exact Mine.sharesIn_len hk9 hi (by omega)
   have hDI2 : I2 ≠ D := Mine.iter_ne2 N5 (by walk_at "m") (List.mem_cons_self ..) hoI2 rfl
   have hI : I < D := hDl (I, oI) (by walk_at "m")
   have hK : L' + 1 < D := hDl (L' + 1, oK) (by walk_at "m")
   replace N5 := Mine.news_re (l' := (D, listOf us.toArray us.length) :: (C, oC) :: (I2, oI2) :: (I, oI) :: (L' + 1, oK) :: (os ++ news)) N5 (by walk_at "n")
   (try k_unmd); walk_at "f"
   walk_at "~"
   k_unmd
   walk_at "~"
   with_reducible rename News g' L' _ _ => hN8
   rw [show ((k : Int) - 1 - (i : Int) - (j : Int)) = ((k - 1 - i - j : Nat) : Int) by omega] at hN8
   with_reducible rename Addr => T9
   ((try dsimp only); (first | (with_reducible rename Fr g' L' _ _ => hF9) | rename Fr g' L' _ _ => hF9); (first | (with_reducible rename News g' L' _ _ => hN9) | rename News g' L' _ _ => hN9); (first | (with_reducible rename Mine.NsO _ _ => hS9) | rename Mine.NsO _ _ => hS9); refine Mine.cp_appJ (us := ?z66u) (v := ?z66v) (fun v9 => (us ++ [v9], (T9, Mine.tup3 (.int (i : Nat) ti) (.int (j : Nat) tj) (.int (k - 1 - i - j : Nat) (tk + 1 + 1 + 1))) :: os)) hF9 hN9 hS9 ?z66d ?z66a ?z66b ?z66n ?z66i ?z66c ?z66o ?z66p ?z66j; (case z66d => k_mem); (case z66p => (rw [Mine.sharesIn_succ]; exact hPj.snoc i j (k - 1 - i - j) _ _ _ _)); (case z66a => rfl); (case z66b => simp); (case z66n => (try dsimp only); (walk_at "n")); (case z66i => k_mem); (case z66c => k_mem); (case z66o => exact List.forall_mem_cons.mpr ⟨rfl, hPj.own⟩); (case z66j => assumption))
  case donew =>
   ((repeat ((with_reducible rename Fr g' L' _ _ => Fx9); clear Fx9)); (repeat ((with_reducible rename News g' L' _ _ => Nx9); clear Nx9)))
   intro c h tk oC mC hPn hNC hJ F5 N5
   (try k_unmd); walk_at "f"
   rw [Mine.sharesIn_all] at hPn
   exact Mine.cp_end' c F5 N5 hNC (by (walk_at "n")) (by simp) (by simp) (List.forall_mem_cons.mpr ⟨rfl, hPn.own⟩) hPn
 case done =>
  ((repeat ((with_reducible rename Fr g' L' _ _ => Fx9); clear Fx9)); (repeat ((with_reducible rename News g' L' _ _ => Nx9); clear Nx9)))
  intro D c h tk hP F5 N5
  (try k_unmd); walk_at "f"
  clear hR
  (try k_unmd); walk_at "f"
  refine leaveK_ F5 N5 ?_
  intro kF kN
  (try dsimp only)
  exact hret _ ((D, W.listOf c.1.toArray c.1.length) :: c.2) _ _ ⟨D, c.1, c.2, rfl, rfl, hP⟩ kF (Mine.news_re kN (by (walk_at "n")))
end
end
section
namespace Mine
noncomputable abbrev CtrN (w : World) (f : Addr) (d u : Nat) (vs : List Value) (Pre : List (Addr × Obj) → Prop) (Post : Value → List (Addr × Obj) → Prop) : Prop :=
 ∀ (p : Program) (loose : List Str) (mean : ExcName → Option Value) (mg mb : Str → Option Value) (dp un : Nat) (gd : Option (List Code)) (cn : Str) (cs : Scope) (a : Addr) (ccd : Value) (cl : List (Str × Addr)) (outer : List Env) (A₀ : Around) (base h₀ : Heap) (L : Addr) (m : Str → Option Value) (news : List (Addr × Obj)) (s : Shared) (Q E : Value → Shared → Prop),
  Below A₀ base outer h₀ → Fr h₀ L s.heap m → (Mine.heapK w.params).In h₀ → News h₀ L s.heap news → Top p loose mean mg mb h₀ → cs.kind = .function → Pre news → dp + d < recursionLimit → un + u < cLine →
  (∀ v tl h' tk', Post v tl → Fr h₀ L h' m → News h₀ L h' (tl ++ news) → Q v { s with heap := h', toks := tk' }) →
  wpAny (model PySem.Challenge.rw_ku0016_01.row.prog w) (ktrTop dp un gd cn cs L a ccd cl outer) (call (.ref f) vs) Q E s
noncomputable abbrev Ent := Addr × Nat × (Nat × Nat × Nat) × Tok × Tok × Tok × Tok
noncomputable def entV (e : Ent) : Value := .ref e.1
noncomputable def entO (e : Ent) : Addr × Obj := (e.1, { cls := .type "tuple", data := .seq #[.str (mk [e.2.1]) e.2.2.2.1, .int (e.2.2.1.1 : Nat) e.2.2.2.2.1, .int (e.2.2.1.2.1 : Nat) e.2.2.2.2.2.1, .int (e.2.2.1.2.2 : Nat) e.2.2.2.2.2.2] })
noncomputable def absE (es : List Ent) : List (Nat × (Nat × Nat × Nat)) := es.map fun e => (e.2.1, e.2.2.1)
noncomputable def weiE (es : List (Nat × (Nat × Nat × Nat))) : Nat := (es.map fun e => 2 * e.2.1 + 1).sum
noncomputable def okE (es : List (Nat × (Nat × Nat × Nat))) : Prop := ∀ e ∈ es, e.1 < 256 ∧ e.2.2.2 ≤ 5 ^ e.2.1
noncomputable def cellO (o : Obj) : Prop := ∃ v, o.data = .cell v
theorem entO_iter (es : List Ent) : ∀ p ∈ es.map entO, isIter p.2 = false := by
 intro p hp
 obtain ⟨e, _, rfl⟩ := List.mem_map.mp hp
 exact isIter_cls rfl (by decide)
theorem cell_iter {o : Obj} (h : cellO o) : isIter o = false := let ⟨_, h⟩ := h; isIter_cell h
theorem ne_obj {h₀ h : Heap} {L a b : Addr} {oa ob : Obj} {l : List (Addr × Obj)} (N : News h₀ L h l) (ha : (a, oa) ∈ l) (hb : (b, ob) ∈ l) (hne : oa ≠ ob) : a ≠ b := by
 intro e
 subst e
 have x := (N _ ha).1
 have y := (N _ hb).1
 dsimp only at x y
 rw [x] at y
 exact hne (Option.some.inj y)
theorem pool_off {h₀ h : Heap} {L a : Addr} {oa : Obj} {l : List (Addr × Obj)} {es : List Ent} (N : News h₀ L h l) (ha : (a, oa) ∈ l) (hes : ∀ p ∈ es.map entO, p ∈ l) (hne : ∀ e : Ent, (entO e).2 ≠ oa) : ∀ p ∈ es.map entO, p.1 ≠ a := by
 intro p hp
 obtain ⟨e, he, rfl⟩ := List.mem_map.mp hp
 exact ne_obj N (hes _ (List.mem_map_of_mem he)) ha (hne e)
theorem weiE_len (es : List Ent) : es.length ≤ weiE (absE es) := by
 induction es with
 | nil => exact Nat.zero_le _
 | cons e es ih =>
  have : weiE (absE (e :: es)) = 2 * e.2.2.1.1 + 1 + weiE (absE es) := rfl
  rw [this, List.length_cons]; omega
theorem cell_list {o : Obj} {vs : Array Value} {n : Nat} (h : cellO o) : o ≠ W.listOf vs n := by
 rintro rfl
 obtain ⟨v, h⟩ := h
 cases h
theorem app_objn (us : List Value) (v : Value) (n : Nat) : W.listOf (us.toArray.push v) n = W.listOf (us ++ [v]).toArray n := by simp
noncomputable def Rest (L' PD : Addr) (R : List (Addr × Obj)) : Prop := ∀ p ∈ R, p.1 ≠ PD ∧ p.1 ≠ L' + 1 ∧ p.1 ≠ L' + 1 + 1 ∧ p.1 ≠ L' + 1 + 1 + 1 ∧ p.1 ≠ L' + 1 + 1 + 1 + 1
noncomputable def rdLed (L' PD I : Addr) (nl : Nat) (oI oC o1 o2 o3 : Obj) (es : List Ent) (news : List (Addr × Obj)) : List (Addr × Obj) :=
 (PD, W.listOf (es.reverse.map entV).toArray nl) :: (I, oI) :: (L' + 1 + 1 + 1 + 1, o3) :: (L' + 1 + 1 + 1, o2) :: (L' + 1 + 1, o1) :: (L' + 1, oC) :: (es.map entO ++ news)
theorem rd_push {h₀ h : Heap} {L L' PD I T : Addr} {nl k : Nat} {ti u v w : Tok} {oI oC o1 o2 o3 : Obj} {es : List Ent} {news : List (Addr × Obj)}
  (N : News h₀ L h ((T, { cls := .type "tuple", data := .seq #[.str ⟨#[k]⟩ ti, .int 0 u, .int 0 v, .int 1 w] }) :: (PD, W.listOf (es.reverse.map entV ++ [Value.ref T]).toArray nl) :: (I, oI) :: (L' + 1 + 1 + 1 + 1, o3) :: (L' + 1 + 1 + 1, o2) :: (L' + 1 + 1, o1) :: (L' + 1, oC) :: (es.map entO ++ news))) :
  News h₀ L h (rdLed L' PD I nl oI oC o1 o2 o3 ((T, k, (0, 0, 1), ti, u, v, w) :: es) news) := by
 have e : ((T, k, (0, 0, 1), ti, u, v, w) :: es : List Ent).reverse.map entV = es.reverse.map entV ++ [Value.ref T] := by simp [entV]
 unfold rdLed
 rw [e]
 refine news_re N fun p hp => ?_
 simp only [List.map_cons, List.cons_append, List.mem_cons] at hp ⊢
 rcases hp with h | h | h | h | h | h | h | h
 ·exact .inr (.inl h)
 ·exact .inr (.inr (.inl h))
 ·exact .inr (.inr (.inr (.inl h)))
 ·exact .inr (.inr (.inr (.inr (.inl h))))
 ·exact .inr (.inr (.inr (.inr (.inr (.inl h)))))
 ·exact .inr (.inr (.inr (.inr (.inr (.inr (.inl h))))))
 ·exact .inl h
 ·exact .inr (.inr (.inr (.inr (.inr (.inr (.inr h))))))
theorem rd_open {h₀ h : Heap} {L L' PD I T1 T2 T3 : Addr} {nl c1 c2 c3 a1 n1 p1 a2 n2 p2 a3 n3 p3 : Nat} {t11 t12 t13 t14 t21 t22 t23 t24 t31 t32 t33 t34 : Tok} {oI oC o1 o2 o3 : Obj} {r : List Ent} {news : List (Addr × Obj)}
  (N : News h₀ L h (rdLed L' PD I nl oI oC o1 o2 o3 ((T3, c3, (a3, n3, p3), t31, t32, t33, t34) :: (T2, c2, (a2, n2, p2), t21, t22, t23, t24) :: (T1, c1, (a1, n1, p1), t11, t12, t13, t14) :: r) news)) :
  News h₀ L h ((PD, W.listOf (r.reverse.map entV ++ [Value.ref T1, Value.ref T2, Value.ref T3]).toArray nl) :: (I, oI) :: (L' + 1 + 1 + 1 + 1, o3) :: (L' + 1 + 1 + 1, o2) :: (L' + 1 + 1, o1) :: (L' + 1, oC) ::
   (T3, { cls := .type "tuple", data := .seq #[.str (mk [c3]) t31, .int (a3 : Nat) t32, .int (n3 : Nat) t33, .int (p3 : Nat) t34] }) :: (T2, { cls := .type "tuple", data := .seq #[.str (mk [c2]) t21, .int (a2 : Nat) t22, .int (n2 : Nat) t23, .int (p2 : Nat) t24] }) ::
   (T1, { cls := .type "tuple", data := .seq #[.str (mk [c1]) t11, .int (a1 : Nat) t12, .int (n1 : Nat) t13, .int (p1 : Nat) t14] }) :: (r.map entO ++ news)) := by
 have e : (((T3, c3, (a3, n3, p3), t31, t32, t33, t34) :: (T2, c2, (a2, n2, p2), t21, t22, t23, t24) :: (T1, c1, (a1, n1, p1), t11, t12, t13, t14) :: r : List Ent).reverse.map entV) = r.reverse.map entV ++ [Value.ref T1, Value.ref T2, Value.ref T3] := by simp [entV]
 unfold rdLed at N
 rw [e] at N
 exact N
theorem rd_lp {h₀ h' : Heap} {L L' I PD : Addr} {nl i tk : Nat} {oI oC o1 o2 o3 : Obj} {es : List Ent} {news : List (Addr × Obj)} {m₀ m' : Str → Option Value} {P : Nat → Addr × Nat × Obj × Obj × Obj × List Ent → Prop} {s₁ : Shared} {x : Str} {stored : List Str}
  (F : Fr h₀ L h' m') (N : News h₀ L h' (rdLed L' PD I nl oI oC o1 o2 o3 es news)) (ho1 : cellO o1) (ho2 : cellO o2) (ho3 : cellO o3) (hk : m' (Str.ofString "pile") = some (.ref PD))
  (hr : ∀ z, z ≠ x → (∀ p ∈ ([(Str.ofString "pile", Value.ref PD)] : List (Str × Value)), z ≠ p.1) → stored.contains z = false → m' z = m₀ z) (hp : P i (PD, nl, o1, o2, o3, es)) :
  LpEnd h₀ L I oI (fun c => (c.1, W.listOf (c.2.2.2.2.2.reverse.map entV).toArray c.2.1) :: (L' + 1 + 1 + 1 + 1, c.2.2.2.2.1) :: (L' + 1 + 1 + 1, c.2.2.2.1) :: (L' + 1 + 1, c.2.2.1) :: c.2.2.2.2.2.map entO) ((L' + 1, oC) :: news) (fun c => [(Str.ofString "pile", .ref c.1)]) stored m₀ x P i s₁ { s₁ with heap := h', toks := tk } := by
 refine lp_end (PD, nl, o1, o2, o3, es) F N ?_ (by simp [rdLed]) ?_ ?_ hr hp
 ·intro p hp
  unfold rdLed
  simp only [List.cons_append, List.mem_cons, List.mem_append] at hp ⊢
  rcases hp with h | h | h | h | h | h | h
  ·exact .inl h
  ·exact .inr (.inr (.inl h))
  ·exact .inr (.inr (.inr (.inl h)))
  ·exact .inr (.inr (.inr (.inr (.inl h))))
  ·exact .inr (.inr (.inr (.inr (.inr (.inr (.inl h))))))
  ·exact .inr (.inr (.inr (.inr (.inr (.inl h)))))
  ·exact .inr (.inr (.inr (.inr (.inr (.inr (.inr h))))))
 ·intro p hp
  simp only [List.mem_cons] at hp
  rcases hp with rfl | rfl | rfl | rfl | hp
  ·exact isIter_cls rfl (by decide)
  ·exact cell_iter ho3
  ·exact cell_iter ho2
  ·exact cell_iter ho1
  ·exact entO_iter es p hp
 ·intro p hp
  rw [List.mem_singleton.mp hp]; exact hk
section
variable {prog : Program} {w : World} {A : Around} {E : Value → Shared → Prop} {s : Shared} {Q : Value → Shared → Prop}
theorem len_us {l : Addr} {us : List Value} {n : Nat} (hl : s.heap.IsList l us.toArray) (hn : us.length = n) (hb : n ≤ 1000) (h : Q (.int (n : Nat) (s.toks + 1)) { s with toks := s.toks + 1 + 1 }) : wpAny (model prog w) A (call (.builtin "len") [.ref l]) Q E s :=
 len_list hl (by rw [List.size_toArray, hn]; omega) (by rw [List.size_toArray, hn]; exact h)
theorem item_neg {value slice : Expr} {l : Addr} {us : List Value} {k : Int} {u : Tok} {x : Value} (hl : s.heap.IsList l us.toArray) (h0 : k < 0) (hfit : -(2 ^ 63) ≤ k) (hx : us[(k + us.length).toNat]? = some x) (hge : 0 ≤ k + us.length) (h : Q x s)
  (hs : subscripted slice false (.ref l) (.int k u) = operate [.ref l, .int k u] (getItem (.ref l) (.int k u)) := by with_unfolding_all rfl) :
  wpAny (model prog w) A (subscriptTail value slice (.ref l) (.int k u)) Q E s := by
 refine tail_any hl.typeIs slot_list_getitem.lookup ?_ hs
 refine wpAny_getItem_list_neg hl h0 ?_ hfit ?_ h
 ·rw [List.size_toArray]; omega
 ·rw [List.size_toArray]; simpa using hx
theorem item_n3 {value slice : Expr} {l : Addr} {xs : List Value} {u : Tok} {a b c : Value} (hl : s.heap.IsList l (xs ++ [a, b, c]).toArray) (h : Q a s)
  (hs : subscripted slice false (.ref l) (.int (-3) u) = operate [.ref l, .int (-3) u] (getItem (.ref l) (.int (-3) u)) := by with_unfolding_all rfl) :
  wpAny (model prog w) A (subscriptTail value slice (.ref l) (.int (-3) u)) Q E s := by
 have e : (-3 + ((xs ++ [a, b, c]).length : Int)) = (xs.length : Int) := by simp; omega
 exact item_neg hl (by decide) (by decide) (by rw [e, Int.toNat_natCast]; simp) (by rw [e]; omega) h hs
theorem item_n2 {value slice : Expr} {l : Addr} {xs : List Value} {u : Tok} {a b c : Value} (hl : s.heap.IsList l (xs ++ [a, b, c]).toArray) (h : Q b s)
  (hs : subscripted slice false (.ref l) (.int (-2) u) = operate [.ref l, .int (-2) u] (getItem (.ref l) (.int (-2) u)) := by with_unfolding_all rfl) :
  wpAny (model prog w) A (subscriptTail value slice (.ref l) (.int (-2) u)) Q E s := by
 have e : (-2 + ((xs ++ [a, b, c]).length : Int)) = ((xs.length + 1 : Nat) : Int) := by simp; omega
 exact item_neg hl (by decide) (by decide) (by rw [e, Int.toNat_natCast]; simp) (by rw [e]; omega) h hs
theorem item_n1 {value slice : Expr} {l : Addr} {xs : List Value} {u : Tok} {a b c : Value} (hl : s.heap.IsList l (xs ++ [a, b, c]).toArray) (h : Q c s)
  (hs : subscripted slice false (.ref l) (.int (-1) u) = operate [.ref l, .int (-1) u] (getItem (.ref l) (.int (-1) u)) := by with_unfolding_all rfl) :
  wpAny (model prog w) A (subscriptTail value slice (.ref l) (.int (-1) u)) Q E s := by
 have e : (-1 + ((xs ++ [a, b, c]).length : Int)) = ((xs.length + 2 : Nat) : Int) := by simp; omega
 exact item_neg hl (by decide) (by decide) (by rw [e, Int.toNat_natCast]; simp) (by rw [e]; omega) h hs
end
theorem eq_sign (c : Nat) : (mk [c] == Str.ofString "=") = decide (c = 61) := by
 rw [show Str.ofString "=" = mk [61] from by decide +kernel, mk_beq]
 by_cases h : c = 61
 ·subst h; rfl
 ·rw [decide_eq_false h]; simp [h]
theorem cell_tup {o : Obj} {vs : Array Value} (h : cellO o) : o ≠ { cls := .type "tuple", data := .seq vs } := by
 rintro rfl
 obtain ⟨v, h⟩ := h
 cases h
theorem rest_off {h₀ h : Heap} {L a : Addr} {oa : Obj} {l R news : List (Addr × Obj)} {es : List Ent} (N : News h₀ L h l) (hR : R = es.map entO ++ news) (hs : ∀ p ∈ R, p ∈ l) (ha : (a, oa) ∈ l) (ho : cellO oa) (hl : ∀ p ∈ news, p.1 < a) : ∀ p ∈ R, p.1 ≠ a := by
 intro p hp
 have hp2 := hp
 rw [hR] at hp2
 rcases List.mem_append.mp hp2 with h1 | h1
 ·obtain ⟨e, _, rfl⟩ := List.mem_map.mp h1
  exact Ne.symm (ne_obj N ha (hs _ hp) (cell_tup ho))
 ·exact Nat.ne_of_lt (hl p h1)
theorem rd_three {h₀ h : Heap} {L a1 a2 a3 : Addr} {q1 q2 q3 : Obj} {X : Addr × Obj} {S : List (Addr × Obj)} (N : News h₀ L h ((a3, q3) :: (a2, q2) :: (a1, q1) :: X :: S)) : ∃ r1 r2 r3, r1 = q1 ∧ r2 = q2 ∧ r3 = q3 ∧ News h₀ L h ((a3, r3) :: (a2, r2) :: (a1, r1) :: S) :=
 ⟨q1, q2, q3, rfl, rfl, rfl, news_re N (by walk_at "n")⟩
section
variable {prog : Program} {w : World} {A : Around} {E : Value → Shared → Prop} {s : Shared} {Q : Value → Shared → Prop} {value slice : Expr} {T : Addr} {x y z r : Value} {u : Tok}
theorem tup_i0 (ht : IsTup s.heap T [x, y, z, r].toArray) (h : Q x s) (hs : subscripted slice false (.ref T) (.int 0 u) = operate [.ref T, .int 0 u] (getItem (.ref T) (.int 0 u)) := by with_unfolding_all rfl) :
  wpAny (model prog w) A (subscriptTail value slice (.ref T) (.int 0 u)) Q E s := item_tupleT (j := 0) ht (by decide) (by decide) rfl rfl h hs
theorem tup_i1 (ht : IsTup s.heap T [x, y, z, r].toArray) (h : Q y s) (hs : subscripted slice false (.ref T) (.int 1 u) = operate [.ref T, .int 1 u] (getItem (.ref T) (.int 1 u)) := by with_unfolding_all rfl) :
  wpAny (model prog w) A (subscriptTail value slice (.ref T) (.int 1 u)) Q E s := item_tupleT (j := 1) ht (by decide) (by decide) rfl rfl h hs
theorem tup_i2 (ht : IsTup s.heap T [x, y, z, r].toArray) (h : Q z s) (hs : subscripted slice false (.ref T) (.int 2 u) = operate [.ref T, .int 2 u] (getItem (.ref T) (.int 2 u)) := by with_unfolding_all rfl) :
  wpAny (model prog w) A (subscriptTail value slice (.ref T) (.int 2 u)) Q E s := item_tupleT (j := 2) ht (by decide) (by decide) rfl rfl h hs
theorem tup_i3 (ht : IsTup s.heap T [x, y, z, r].toArray) (h : Q r s) (hs : subscripted slice false (.ref T) (.int 3 u) = operate [.ref T, .int 3 u] (getItem (.ref T) (.int 3 u)) := by with_unfolding_all rfl) :
  wpAny (model prog w) A (subscriptTail value slice (.ref T) (.int 3 u)) Q E s := item_tupleT (j := 3) ht (by decide) (by decide) rfl rfl h hs
end
theorem abs_cons (T : Addr) (k : Nat) (d : Nat × Nat × Nat) (t : Tok × Tok × Tok × Tok) (es : List Ent) : absE ((T, k, d, t) :: es) = (k, d) :: absE es := rfl
theorem wei_cons (k : Nat) (d : Nat × Nat × Nat) (l : List (Nat × (Nat × Nat × Nat))) : weiE ((k, d) :: l) = 2 * d.1 + 1 + weiE l := rfl
theorem okE_cons {k : Nat} {d : Nat × Nat × Nat} {l : List (Nat × (Nat × Nat × Nat))} (h1 : k < 256) (h2 : d.2.2 ≤ 5 ^ d.1) (h : okE l) : okE ((k, d) :: l) := by
 intro e he
 rcases List.mem_cons.mp he with rfl | he
 ·exact ⟨h1, h2⟩
 ·exact h e he
theorem readOk_app (x y : List Nat) : ∀ (p : List (Nat × (Nat × Nat × Nat))), readOk ndR eR p (x ++ y) → readOk ndR eR (readP ndR eR p x) y := by
 induction x with
 | nil => intro p h; exact h
 | cons c x ih => intro p h; exact ih _ h.2
theorem ok_step {T9 : Tree} {s9 : Nat} {x : List Nat} {i k : Nat} (hs : s9 < 256) (hx : x = flat s9 T9) (h : x[i]? = some k) : settleOk ndR ((k, (0, 0, 1)) :: readP ndR eR [] (x.take i)) := by
 have h1 := ok_tree ndR eR T9 s9 hs
 rw [← hx, ← List.take_append_drop i x] at h1
 obtain ⟨hi, hk⟩ := List.getElem?_eq_some_iff.mp h
 rw [List.drop_eq_getElem_cons hi, hk] at h1
 exact (readOk_app _ _ _ h1).1
theorem take_one {x : List Nat} {i k : Nat} (h : x[i]? = some k) : x.take (i + 1) = x.take i ++ [k] := by rw [List.take_add_one, h]; rfl
end Mine
end
section
namespace Mine
section
variable {prog : Program} {w : World} {A : Around} {E : Value → Shared → Prop} {s : Shared} {env : Env} {h₀ : Heap} {L : Addr}
noncomputable def GenGoU (prog : Program) (w : World) (A : Around) (env : Env) (elt : Expr) (gens : List Comprehension) (scope : Scope) (cl : List (Str × Addr)) (pos : Pos) (y : Str) (py : Pos) (Q : Flow → Shared → Prop) (E : Value → Shared → Prop) (it : Value) (s₂ : Shared) : Prop :=
 wpAny (model prog w) A (newList []) (fun acc s₃ => wpAny (model prog w) A (newFunctionEnv scope env.globals cl [] env.qual none .none (some env)) (fun cenv s₄ =>
  codeAny (model prog w) A (.compStart (.ListComp elt gens scope pos) 0 it acc { cenv with scope := relabel scope env }) (compPost (model prog w) A E (some (assign (.Name y py) env)) (fun _ s' => Q .next s') acc cenv.locals) s₄) E s₃) E s₂
theorem assign_gen {elt target iter : Expr} {ifs : List Expr} {more : List Comprehension} {scope : Scope} {cl : List (Str × Addr)} {pos spos : Pos} {y : Str} {py : Pos} {Q : Flow → Shared → Prop}
  (h : wpAny (model prog w) A (eval iter env) (fun xv s₁ => wpAny (model prog w) A (pyIter xv) (fun it s₂ => GenGoU prog w A env elt (⟨target, iter, ifs, 0⟩ :: more) scope cl pos y py Q E it s₂) E s₁) E s)
  (hsw : swapsWith (.ListComp elt (⟨target, iter, ifs, 0⟩ :: more) scope pos) (some (.Name y py)) spos.line env = pure true)
  (hclos : closureFor scope env = pure cl) (hkind : scope.kind = .function) (hnames : ∀ y ∈ scope.names, y.2 = .local → scope.names.lookup y.1 = some .local)
  (hs : ∀ x, foldedSetIterable iter env x = pure x := by intro _; rfl) :
  wpAny (model prog w) A (exec (.Assign [.Name y py] (.ListComp elt (⟨target, iter, ifs, 0⟩ :: more) scope pos) spos) env) Q E s := by
 rw [exec_Assign_Name_used _ _ _ _ hsw]
 refine wpAny_bind (wpAny_standAt (wpAny_bind ?_))
 show wpAny _ A (do let _ ← comprehension (.ListComp elt (⟨target, iter, ifs, 0⟩ :: more) scope pos) scope env _ (newList []) false (eval iter env) (some (assign (.Name y py) env))) _ _ s
 exact wpAny_bind (wpAny_mono (wpAny_comprehension_free (use := some (assign (.Name y py) env)) (Q := fun _ s' => Q .next s') rfl hs hclos hkind hnames
  (wpAny_mono h (fun xv s₁ h₁ => wpAny_mono h₁ (fun it s₂ h₂ => h₂) fun _ _ e => e) fun _ _ e => e)) (fun _ s' hq => wpAny_pure (wpAny_pure hq)) fun _ _ e => e)
theorem gen_goU {σ : Type} {elt target iter : Expr} {ifs : List Expr} {more : List Comprehension} {scope : Scope} {cl : List (Str × Addr)} {pos p : Pos} {rest : Value → Env → Sem Unit} {y : Str} {py : Pos} {Q : Flow → Shared → Prop} {I : Addr} {n : Nat} {W : Nat → Value → Prop} {fp : List Addr} {St : Nat → Heap → Prop} {m : Str → Option Value}
  (upd : Nat → Value → (Str → Option Value) → Str → Option Value)
  (items : σ → List Value) (nn : σ → Nat) (Own : σ → List (Addr × Obj)) (tail : List (Addr × Obj)) (P : Nat → σ → Prop) (c₀ : σ)
  (hT : ∀ acc cenv, compTurn (.ListComp elt (⟨target, iter, ifs, 0⟩ :: more) scope pos) 0 (.ref I) acc cenv = (standAt p >>= fun _ => pyNext (.ref I) >>= fun r => match r with
   | none => pure (.done .next)
   | some v => letOwnedTupleGo target (.ref I) v >>= fun _ => assign target cenv v >>= fun _ => rest acc cenv >>= fun _ => again (.compLoop (.ListComp elt (⟨target, iter, ifs, 0⟩ :: more) scope pos) 0 (.ref I) acc cenv)))
  (hW : Walks prog w A I fp [I] n W St) (hit : ∀ i h, St i h → ∃ o, h.get? I = some o ∧ isIter o = true)
  (hfp : ∀ b ∈ fp, b = I ∨ (∃ o, h₀.get? b = some o) ∨ ∃ o, ∀ c : σ, (b, o) ∈ Own c ++ tail) (hfs : ∀ b ∈ fp, b < s.heap.objs.size) (hIs : I < s.heap.objs.size)
  (hI0 : h₀.get? I = none) (hIL : I ≠ L) (hoff : ∀ p ∈ Own c₀ ++ tail, p.1 ≠ I) (hst : St 0 s.heap)
  (hcell : ∀ y ∈ scope.names, y.2 ≠ .cell) (hkind : scope.kind = .function)
  (hc1 : items c₀ = []) (hc2 : nn c₀ = 0)
  (F : Fr h₀ L s.heap m) (N : News h₀ L s.heap (Own c₀ ++ tail)) (hP : P 0 c₀)
  (store : ∀ (C : Addr) (c : σ) i v (s₁ : Shared) mC (Q : Unit → Shared → Prop) (E : Value → Shared → Prop), i < n → W i v → St (i + 1) s₁.heap → P i c → s₁.heap.Ns C mC → (∀ p ∈ Own c ++ tail, s₁.heap.get? p.1 = some p.2) →
   (∀ h₂ tk₂, h₂.Ns C (upd i v mC) → (∀ b o, b ≠ C → s₁.heap.get? b = some o → h₂.get? b = some o) → Q () { s₁ with heap := h₂, toks := tk₂ }) →
   wpAny (model prog w) A (letOwnedTupleGo target (.ref I) v) (fun _ s₁ => wpAny (model prog w) A (assign target (compEnvC scope cl C env) v) Q E s₁) E s₁)
  (turn : ∀ (D C : Addr) (c : σ) i v h tk oI oC (mC : Str → Option Value), D < C → (∀ p ∈ (I, oI) :: tail, p.1 < D) → i < n → W i v → isIter oI = true → P i c → NsO oC (upd i v mC) → Fr h₀ L h m → News h₀ L h ((D, listOf (items c).toArray (nn c)) :: (Own c ++ ((C, oC) :: (I, oI) :: tail))) →
   wpAny (model prog w) A (rest (.ref D) (compEnvC scope cl C env)) (fun _ s₄ => CpEnd h₀ L C I oI (fun c => (D, listOf (items c).toArray (nn c)) :: Own c) tail m P (i + 1) { s with heap := h, toks := tk } s₄) (fun _ _ => False) { s with heap := h, toks := tk })
  (hLe : env.locals = L) (hy : env.kindOf y = some .local) (hp9 : (env.scope.kind == .class || (env.scope.kind == .module && env.locals != env.globals)) = false)
  (done : ∀ (D : Addr) (c : σ) h tk, P n c → Fr h₀ L h (fun z => if z = y then some (.ref D) else m z) → News h₀ L h ((D, listOf (items c).toArray (nn c)) :: (Own c ++ tail)) → Q .next { s with heap := h, toks := tk }) :
  GenGoU prog w A env elt (⟨target, iter, ifs, 0⟩ :: more) scope cl pos y py Q E (.ref I) s := by
 subst hLe
 refine gen_goG (Z := fun acc C => compPost (model prog w) A E (some (assign (.Name y py) env)) (fun _ s' => Q .next s') acc C) upd items nn Own tail P c₀ hT hW hit hfp hfs hIs hI0 hIL hoff hst hcell hkind hc1 hc2 F N hP store turn fun D C c h tk oC mC hPn hN hne hCL hC0 F' N' => ?_
 have hL₀ : h₀.get? env.locals = none := Heap.get?_none_of_le F'.above
 show wpAny _ A (assign (.Name y py) env (.ref D)) _ _ _
 refine wpAny_assign_Name (wpAny_storeName_local hy F'.ns (fun h₂ hn₂ hs₂ => ?_) hp9)
 have F₂ : Fr h₀ env.locals h₂ (fun z => if z = y then some (.ref D) else m z) := ⟨hn₂, fun b o e => hs₂.extBut b o (fun q => by rw [q, hL₀] at e; cases e) (F'.keep b o e), F'.above⟩
 refine ⟨mC, (hN.ns (N' (C, oC) (List.mem_append.mpr (.inr (List.mem_cons_self ..)))).1).sameBut hs₂ hCL, fun h' hs' => done _ c h' _ hPn (sameBut_fr F₂ hs' (fun q => hCL q.symm) hC0) fun p hp => ?_⟩
 have q := N' p (go_mem hp)
 exact ⟨(hs'.2 p.1 (hne p hp)).trans (hs₂.extBut _ _ q.2.1 q.1), q.2⟩
theorem gen_list1U {σ : Type} {elt iter : Expr} {ifs : List Expr} {more : List Comprehension} {x : Str} {px : Pos} {scope : Scope} {cl : List (Str × Addr)} {pos p : Pos} {rest : Value → Env → Sem Unit} {y : Str} {py : Pos} {Q : Flow → Shared → Prop} {l : Addr} {its : Array Value} {nl : Nat} {tail : List (Addr × Obj)} {m : Str → Option Value}
  (items : σ → List Value) (nn : σ → Nat) (Own : σ → List (Addr × Obj)) (P : Nat → σ → Prop) (c₀ : σ)
  (hT : ∀ it acc cenv, compTurn (.ListComp elt (⟨.Name x px, iter, ifs, 0⟩ :: more) scope pos) 0 it acc cenv = (standAt p >>= fun _ => pyNext it >>= fun r => match r with
   | none => pure (.done .next)
   | some v => letOwnedTupleGo (.Name x px) it v >>= fun _ => assign (.Name x px) cenv v >>= fun _ => rest acc cenv >>= fun _ => again (.compLoop (.ListComp elt (⟨.Name x px, iter, ifs, 0⟩ :: more) scope pos) 0 it acc cenv)))
  (F : Fr h₀ L s.heap m) (N : News h₀ L s.heap (Own c₀ ++ ((l, listOf its nl) :: tail))) (hh : A.handled = none) (hc1 : items c₀ = []) (hc2 : nn c₀ = 0) (hP : P 0 c₀)
  (hcell : ∀ y ∈ scope.names, y.2 ≠ .cell) (hkind : scope.kind = .function) (hx : scope.names.lookup x = some .local)
  (turn : ∀ (D C I : Addr) (c : σ) i v h tk oI oC (mC : Str → Option Value), D < C → (∀ p ∈ (I, oI) :: (l, listOf its nl) :: tail, p.1 < D) → its[i]? = some v → isIter oI = true → P i c → NsO oC (fun y => if y = x then some v else mC y) → Fr h₀ L h m → News h₀ L h ((D, listOf (items c).toArray (nn c)) :: (Own c ++ ((C, oC) :: (I, oI) :: (l, listOf its nl) :: tail))) →
   wpAny (model prog w) A (rest (.ref D) (compEnvC scope cl C env)) (fun _ s₄ => CpEnd h₀ L C I oI (fun c => (D, listOf (items c).toArray (nn c)) :: Own c) ((l, listOf its nl) :: tail) m P (i + 1) { s with heap := h, toks := tk } s₄) (fun _ _ => False) { s with heap := h, toks := tk })
  (hLe : env.locals = L) (hy : env.kindOf y = some .local) (hp9 : (env.scope.kind == .class || (env.scope.kind == .module && env.locals != env.globals)) = false)
  (done : ∀ (D : Addr) (c : σ) h tk, P its.size c → Fr h₀ L h (fun z => if z = y then some (.ref D) else m z) → News h₀ L h ((D, listOf (items c).toArray (nn c)) :: (Own c ++ ((l, listOf its nl) :: tail))) → Q .next { s with heap := h, toks := tk }) :
  wpAny (model prog w) A (pyIter (.ref l)) (fun it s₂ => GenGoU prog w A env elt (⟨.Name x px, iter, ifs, 0⟩ :: more) scope cl pos y py Q E it s₂) E s := by
 have hlm : (l, listOf its nl) ∈ Own c₀ ++ ((l, listOf its nl) :: tail) := List.mem_append.mpr (.inr (List.mem_cons_self ..))
 have hol : s.heap.get? l = some (listOf its nl) := (N _ hlm).1
 have hls : s.heap.IsList l its := ⟨_, hol, rfl, nl, rfl⟩
 have hne : l ≠ s.heap.objs.size := Nat.ne_of_lt (Heap.lt_size hol)
 refine wpAny_pyIter_list hls ?_
 have W := Walks.list (prog := prog) (w := w) hh s.heap.objs.size l hne its
 refine gen_goU (s := { s with heap := s.heap.push { cls := .type "list_iterator", data := .fields #[.ref l, .int 0 0] } }) (fun _ v mC => updN x v mC) items nn Own _ P c₀ (hT _) W (fun i h st => ?_) ?_ ?_ ?_ (next_is_new F) (fun e => absurd F.ns.lt (e ▸ Nat.lt_irrefl _)) (fun p hp e => absurd (Heap.lt_size (N p hp).1) (by rw [e]; exact Nat.lt_irrefl _)) ⟨⟨_, Heap.get?_push_size _ rfl, rfl, rfl⟩, hls.at fun o e => Heap.get?_push_of_some _ e⟩ hcell hkind hc1 hc2
  (F.push _) (fun p hp => ⟨Heap.get?_push_of_some _ (N p hp).1, (N p hp).2⟩) hP ?_ ?_ hLe hy hp9 done
 ·(refine Mine.foldG ?_; intro gk246; (first | refine Mine.exE st ?_ | refine Mine.anE st ?_); intro zo242 zo243; clear st; (first | refine Mine.exE zo242 ?_ | refine Mine.anE zo242 ?_); intro o zo244; clear zo242; (first | refine Mine.exE zo244 ?_ | refine Mine.anE zo244 ?_); intro ho zo245; clear zo244; (first | refine Mine.exE zo245 ?_ | refine Mine.anE zo245 ?_); intro hc hd; clear zo245; unfold gk246; clear gk246)
  exact ⟨o, ho, iter_of hc hd (by decide) rfl (fun _ _ h => nomatch h)⟩
 ·intro b hb
  rcases List.mem_cons.mp hb with rfl | hb
  ·exact .inl rfl
  ·rw [List.mem_singleton.mp hb]; exact .inr (.inr ⟨_, fun c => List.mem_append.mpr (.inr (List.mem_cons_self ..))⟩)
 ·intro b hb
  show b < (s.heap.push _).objs.size
  rw [Heap.size_push]
  rcases List.mem_cons.mp hb with rfl | hb
  ·exact Nat.lt_succ_self _
  ·rw [List.mem_singleton.mp hb]; exact Nat.lt_succ_of_lt (Heap.lt_size hol)
 ·show s.heap.objs.size < (s.heap.push _).objs.size
  rw [Heap.size_push]; exact Nat.lt_succ_self _
 ·intro C c i v s₁ mC Q' E' _ _ _ _ hn _ hQ
  exact store_name (lookup_relabel_local hx) (by simp [compEnvC, relabel, hkind]) hn hQ
 ·intro D C c i v h tk oI oC mC hDC hDl hi hv ho hc hN F' N'
  exact turn D C _ c i v h tk oI oC mC hDC hDl hv ho hc hN F' N'
end
end Mine
end
section
namespace Mine
theorem rd_pack9 {h₀ h : Heap} {L : Addr} {D a b c d e f g i j : Addr × Obj} {os R : List (Addr × Obj)} (N : News h₀ L h (D :: (os ++ a :: b :: c :: d :: e :: f :: g :: i :: j :: R))) : News h₀ L h (D :: a :: b :: c :: d :: e :: f :: g :: i :: j :: (os ++ R)) :=
 news_re N (by walk_at "n")
theorem sh_get {S : List (Nat × Nat × Nat)} {us : List Value} {os : List (Addr × Obj)} (h : ShAre S us os) {i : Nat} {v : Value} (hv : us.toArray[i]? = some v) :
  ∃ (x y z : Nat) (T : Addr) (u1 u2 u3 : Tok), S[i]? = some (x, y, z) ∧ v = .ref T ∧ (T, tup3 (.int (x : Nat) u1) (.int (y : Nat) u2) (.int (z : Nat) u3)) ∈ os := by
 have hv : us[i]? = some v := by simpa using hv
 have hi : i < S.length := by rw [← h.1]; exact (List.getElem?_eq_some_iff.mp hv).1
 obtain ⟨T, u1, u2, u3, e1, e2⟩ := h.2.2 i S[i] (List.getElem?_eq_getElem hi)
 rw [hv] at e1
 exact ⟨_, _, _, T, u1, u2, u3, List.getElem?_eq_getElem hi, Option.some.inj e1, e2⟩
theorem lt3_int (x y z x' y' z' : Nat) : (if (x : Int) = (x' : Int) then (if (y : Int) = (y' : Int) then decide ((z : Int) < (z' : Int)) else decide ((y : Int) < (y' : Int))) else decide ((x : Int) < (x' : Int))) = lt3 (x, y, z) (x', y', z') := by
 unfold lt3
 dsimp only
 by_cases h1 : x = x'
 ·subst h1
  by_cases h2 : y = y'
  ·subst h2; simp
  ·have : (y : Int) ≠ (y' : Int) := by omega
   simp [h2, this]
 ·have : (x : Int) ≠ (x' : Int) := by omega
  simp [h1, this]
theorem ShAre.nil' {os : List (Addr × Obj)} (h : ∀ p ∈ os, ∃ x y z, p.2 = tup3 x y z) : ShAre [] [] os := ⟨rfl, h, fun i q h => by simp at h⟩
theorem ShAre.snoc' {S : List (Nat × Nat × Nat)} {us : List Value} {os : List (Addr × Obj)} (h : ShAre S us os) {a b c : Nat} {T : Addr} {t1 t2 t3 : Tok} (hT : (T, tup3 (.int (a : Nat) t1) (.int (b : Nat) t2) (.int (c : Nat) t3)) ∈ os) :
  ShAre (S ++ [(a, b, c)]) (us ++ [.ref T]) os := by
 obtain ⟨h1, h2, h3⟩ := h
 refine ⟨by simp [h1], h2, fun i q hq => ?_⟩
 by_cases hi : i < S.length
 ·rw [List.getElem?_append_left hi] at hq
  obtain ⟨T', u1, u2, u3, e1, e2⟩ := h3 i q hq
  exact ⟨T', u1, u2, u3, by rw [List.getElem?_append_left (by omega)]; exact e1, e2⟩
 ·rw [List.getElem?_append_right (by omega)] at hq
  have hi2 : i - S.length = 0 := by
   have := (List.getElem?_eq_some_iff.mp hq).1
   simp at this; omega
  rw [hi2] at hq
  cases hq
  exact ⟨T, t1, t2, t3, by rw [List.getElem?_append_right (by omega), h1, hi2]; rfl, hT⟩
theorem ahead_step {S : List (Nat × Nat × Nat)} {f : Nat × Nat × Nat → Bool} {i : Nat} {q : Nat × Nat × Nat} (h : S[i]? = some q) : (S.take (i + 1)).filter f = (S.take i).filter f ++ (if f q = true then [q] else []) := by
 rw [List.take_add_one, h, List.filter_append]
 congr 1
 show List.filter f [q] = _
 rw [List.filter_cons]; rfl
theorem ShAre.val {S : List (Nat × Nat × Nat)} {us : List Value} {os : List (Addr × Obj)} (h : ShAre S us os) :
  ∃ f : Nat → Value × Value × Value, (∀ (i : Nat) (v : Value), us.toArray[i]? = some v → ∃ T, v = .ref T ∧ (T, ({ cls := .type "tuple", data := .seq #[(f i).1, (f i).2.1, (f i).2.2] } : Obj)) ∈ os) ∧
   ∀ (i : Nat) (q : Nat × Nat × Nat), S[i]? = some q → ∃ t1 t2 t3, f i = (.int (q.1 : Nat) t1, .int (q.2.1 : Nat) t2, .int (q.2.2 : Nat) t3) := by
 have key : ∀ i : Nat, ∃ r : Value × Value × Value, (∀ (v : Value), us.toArray[i]? = some v → ∃ T, v = .ref T ∧ (T, ({ cls := .type "tuple", data := .seq #[r.1, r.2.1, r.2.2] } : Obj)) ∈ os) ∧
   ∀ (q : Nat × Nat × Nat), S[i]? = some q → ∃ t1 t2 t3, r = (.int (q.1 : Nat) t1, .int (q.2.1 : Nat) t2, .int (q.2.2 : Nat) t3) := by
  intro i
  cases hi : S[i]? with
  | none =>
   refine ⟨(.none, .none, .none), fun v hv => ?_, fun q hq => nomatch hq⟩
   obtain ⟨x, y, z, T, u1, u2, u3, e, _⟩ := sh_get h hv
   rw [hi] at e; cases e
  | some q =>
   obtain ⟨T, u1, u2, u3, e1, e2⟩ := h.2.2 i q hi
   refine ⟨(.int (q.1 : Nat) u1, .int (q.2.1 : Nat) u2, .int (q.2.2 : Nat) u3), fun v hv => ?_, fun q2 hq => ?_⟩
   ·have hv : us[i]? = some v := by simpa using hv
    rw [hv] at e1
    exact ⟨T, Option.some.inj e1, e2⟩
   ·cases hq; exact ⟨u1, u2, u3, rfl⟩
 exact ⟨fun i => Classical.choose (key i), fun i => (Classical.choose_spec (key i)).1, fun i => (Classical.choose_spec (key i)).2⟩
theorem cp_keep1 {h₀ h' : Heap} {L C I D : Addr} {oI oC : Obj} {X : Addr × Obj} {tail : List (Addr × Obj)} {m mC : Str → Option Value} {P : Nat → List Value → Prop} {i : Nat} {s₁ : Shared} {tk : Nat} {c : List Value}
  (F : Fr h₀ L h' m) (N : News h₀ L h' (X :: (D, W.listOf c.toArray c.length) :: (C, oC) :: (I, oI) :: tail)) (hC : NsO oC mC) (hp : P i c) :
  CpEnd h₀ L C I oI (fun c => [(D, W.listOf c.toArray c.length)]) tail m P i s₁ { s₁ with heap := h', toks := tk } := by
 k_with_none
 k_with "storeName" => (k_here; (with_reducible show wpAny _ _ (storeName _ _ _) _ _ _); k_dflt (refine' Mine.storeF ?Fw65 ?Nw65 ?_ ?aw65 ?bw65; (case Fw65 => k_asm); (case Nw65 => k_asm); (case aw65 => exact Eq.refl ScopeKind.function); (case bw65 => exact Eq.refl (some NameKind.local)); k_whole; intro h7s m7s F7s N7s; (try k_sweep)))
 k_with "eval Name" => (k_here; (with_reducible show wpAny _ _ (eval (Expr.Name _ _) _) _ _ _); k_dflt (refine' nameX_L ?Fw66 ?vw66 ?_ ?aw66 ?bw66; (case Fw66 => k_asm); (case aw66 => exact Eq.refl ScopeKind.function); (case bw66 => exact Eq.refl (some NameKind.local)); (case vw66 => exact Eq.refl (some _)); k_whole))
 refine cp_end' (Own := fun c => [(D, W.listOf c.toArray c.length)]) c F N hC ?_ (List.mem_cons_of_mem _ (List.mem_cons_of_mem _ (List.mem_cons_of_mem _ (List.mem_cons_self ..)))) (List.mem_cons_of_mem _ (List.mem_cons_of_mem _ (List.mem_cons_self ..))) ?_ hp
 ·walk_at "n"
 ·intro p hp
  rw [List.mem_singleton.mp hp]; rfl
theorem cp_app1 {h₀ h' : Heap} {L C I D : Addr} {oI oC : Obj} {tail : List (Addr × Obj)} {m mC : Str → Option Value} {P : Nat → List Value → Prop} {i : Nat} {s₁ : Shared} {tk : Nat} {c : List Value} {v : Value}
  (F : Fr h₀ L h' m) (N : News h₀ L h' ((D, W.listOf (c.toArray.push v) (c.length + 1)) :: (C, oC) :: (I, oI) :: tail)) (hC : NsO oC mC) (hp : P i (c ++ [v])) :
  CpEnd h₀ L C I oI (fun c => [(D, W.listOf c.toArray c.length)]) tail m P i s₁ { s₁ with heap := h', toks := tk } := by
 refine cp_app (items := fun c => c) (nn := fun c => c.length) (Own := fun _ => []) (us := c) (v := v) (fun v9 => c ++ [v9]) F N hC (List.mem_cons_self ..) rfl (by simp) ?_ (List.mem_cons_of_mem _ (List.mem_cons_of_mem _ (List.mem_cons_self ..))) (List.mem_cons_of_mem _ (List.mem_cons_self ..)) (fun _ h => nomatch h) hp
 intro p hp
 simp only [List.nil_append, List.mem_cons] at hp ⊢
 simp [hp]
theorem sharesL_len {k : Nat} (hk : k ≤ 5) : (sharesL k).length ≤ 25 := by
 have h1 := sharesTo_len k k
 have h2 : k * k ≤ 5 * 5 := Nat.mul_le_mul hk hk
 unfold sharesL; omega
theorem ahead_len {k i : Nat} {f : Nat × Nat × Nat → Bool} {us : List Value} {os : List (Addr × Obj)} (hk : k ≤ 5) (h : ShAre (((sharesL k).take i).filter f) us os) : us.length ≤ 25 := by
 rw [h.1]
 exact Nat.le_trans (List.length_filter_le _ _) (Nat.le_trans (by simp; omega) (sharesL_len hk))
theorem rd_drop2 {h₀ h : Heap} {L : Addr} {a b : Addr × Obj} {R : List (Addr × Obj)} (N : News h₀ L h (a :: b :: R)) : News h₀ L h (a :: R) :=
 news_re N (by walk_at "n")
theorem cn_at2 (a : Nat) : (List.map (fun (d : Nat) => (d : Int)) (cnts 5)).getD ((a : Int)).toNat 0 = ((cn a : Nat) : Int) := by
 rw [Int.toNat_natCast]
 unfold cn
 simp only [List.getD, List.getElem?_map]
 cases (cnts 5)[a]? <;> rfl
theorem ints_app {us : List Value} {ns : List Int} (h : IntsAre us ns) (n : Int) (t : Tok) : IntsAre (us ++ [.int n t]) (ns ++ [n]) := by
 induction h with
 | nil => exact .cons _ _ .nil
 | cons a b _ ih => exact .cons a b ih
theorem mem_of2 {x : Addr × Obj} {R l : List (Addr × Obj)} (h : x ∈ R) (s : ∀ q ∈ R, q ∈ l) : x ∈ l := s x h
theorem blocks_step {S : List (Nat × Nat × Nat)} {i : Nat} {q : Nat × Nat × Nat} (h : S[i]? = some q) : ((S.take (i + 1)).map fun p => ((blockN p : Nat) : Int)) = ((S.take i).map fun p => ((blockN p : Nat) : Int)) ++ [((blockN q : Nat) : Int)] := by
 rw [List.take_add_one, h, List.map_append]; rfl
theorem cn_bits {a : Nat} (h : a ≤ 5) : Builtin.Int.intBits ((cn a : Nat) : Int) ≤ 64 := Nat.le_trans (bits_lt (m := 30) (Nat.lt_of_le_of_lt (cn_le a h) (by decide))) (by decide)
theorem ahead_mem {k : Nat} {q p : Nat × Nat × Nat} (h : p ∈ aheadL k q) (hk : k ≤ 5) : p.1 ≤ 5 ∧ p.2.1 ≤ 5 ∧ p.2.2 ≤ 5 := by
 have := shares_mem (List.mem_filter.mp h).1
 omega
theorem sum_cast (l : List (Nat × Nat × Nat)) : (l.map fun p => ((blockN p : Nat) : Int)).sum = (((l.map blockN).sum : Nat) : Int) := by
 induction l with
 | nil => rfl
 | cons a l ih => simp only [List.map_cons, List.sum_cons, ih]; omega
theorem rd_dropD {h₀ h : Heap} {L : Addr} {a b c d e f g i j k l : Addr × Obj} {os R : List (Addr × Obj)} (N : News h₀ L h (a :: b :: c :: d :: e :: f :: g :: i :: j :: k :: l :: (os ++ R))) : News h₀ L h (c :: d :: e :: f :: g :: i :: j :: k :: l :: R) :=
 news_re N (by walk_at "n")
theorem p_bits {p a : Nat} (h : p ≤ 5 ^ a) (ha : a ≤ 5) : Builtin.Int.intBits ((p : Nat) : Int) ≤ 64 := by
 have h1 : 5 ^ a ≤ 5 ^ 5 := Nat.pow_le_pow_right (by decide) ha
 have h2 : (5 : Nat) ^ 5 < 2 ^ 30 := by decide
 exact Nat.le_trans (bits_lt (m := 30) (by omega)) (by decide)
theorem hexVal_lt2 {c : Nat} (h : isHex c = true) : hexVal c < 16 := by
 simp only [isHex, Bool.or_eq_true, Bool.and_eq_true, decide_eq_true_eq] at h
 unfold hexVal; split
 ·omega
 ·split <;> omega
theorem rd_new {h₀ h : Heap} {L L' PD2 TN l0 PDo I T3 T2 T1 : Addr} {o0 oP oI oC q1 q2 q3 p3 p2 p1' : Obj} {X1 : Addr × Obj} {xs : List Value} {R news : List (Addr × Obj)} {r : List Ent} {v kk NN p1 p2' p3' : Nat} {t1 t2 t3 t4 : Tok}
  (N : News h₀ L h ((PD2, { cls := .type "list", data := .seq (xs ++ [Value.ref TN]).toArray }) :: (l0, o0) :: (TN, { cls := .type "tuple", data := .seq #[.str ⟨#[((v : Nat) : Int).toNat]⟩ t1, .int (kk : Nat) t2, .int (NN : Nat) t3, .int ((p1 : Int) * (p2' : Int) * (p3' : Int) * (kk : Int)) t4] }) :: X1 :: (L' + 1 + 1 + 1 + 1, q3) :: (L' + 1 + 1 + 1, q2) :: (L' + 1 + 1, q1) :: (PDo, oP) :: (I, oI) :: (L' + 1, oC) :: (T3, p3) :: (T2, p2) :: (T1, p1') :: R))
  (hxs : xs = r.reverse.map entV) (hR : R = r.map entO ++ news) : News h₀ L h (rdLed L' PD2 I 0 oI oC q1 q2 q3 ((TN, v, (kk, NN, p1 * p2' * p3' * kk), t1, t2, t3, t4) :: r) news) := by
 have e : ((TN, v, (kk, NN, p1 * p2' * p3' * kk), t1, t2, t3, t4) :: r : List Ent).reverse.map entV = xs ++ [Value.ref TN] := by simp [entV, hxs]
 have e2 : ({ cls := .type "tuple", data := .seq #[.str ⟨#[((v : Nat) : Int).toNat]⟩ t1, .int (kk : Nat) t2, .int (NN : Nat) t3, .int ((p1 : Int) * (p2' : Int) * (p3' : Int) * (kk : Int)) t4] } : Obj) = (entO (TN, v, (kk, NN, p1 * p2' * p3' * kk), t1, t2, t3, t4)).2 := by
  have : (p1 : Int) * (p2' : Int) * (p3' : Int) * (kk : Int) = ((p1 * p2' * p3' * kk : Nat) : Int) := by simp
  rw [this, Int.toNat_natCast]; rfl
 rw [e2] at N
 unfold rdLed
 rw [e, List.map_cons, List.cons_append, ← hR]
 refine news_re N fun p hp => ?_
 simp only [List.mem_cons] at hp ⊢
 rcases hp with h | h | h | h | h | h | h | h
 ·exact .inl h
 ·simp only [h, true_or, or_true]
 ·simp only [h, true_or, or_true]
 ·simp only [h, true_or, or_true]
 ·simp only [h, true_or, or_true]
 ·simp only [h, true_or, or_true]
 ·exact .inr (.inr (.inl h))
 ·simp only [h, true_or, or_true]
theorem ndR_le {a1 n1 p1 a2 n2 p2 a3 n3 p3 : Nat} (h1 : p1 ≤ 5 ^ a1) (h2 : p2 ≤ 5 ^ a2) (h3 : p3 ≤ 5 ^ a3) (hk : a1 + a2 + a3 + 1 ≤ 5) : (ndR (a1, n1, p1) (a2, n2, p2) (a3, n3, p3)).2.2 ≤ 5 ^ (ndR (a1, n1, p1) (a2, n2, p2) (a3, n3, p3)).1 := by
 show p1 * p2 * p3 * (a1 + a2 + a3 + 1) ≤ 5 ^ (a1 + a2 + a3 + 1)
 rw [Nat.pow_succ, Nat.pow_add, Nat.pow_add]
 exact Nat.mul_le_mul (Nat.mul_le_mul (Nat.mul_le_mul h1 h2) h3) hk
theorem rd_close {h₀ h : Heap} {L L' PD I T1 T2 T3 : Addr} {nl c1 c2 c3 a1 n1 p1 a2 n2 p2 a3 n3 p3 : Nat} {t11 t12 t13 t14 t21 t22 t23 t24 t31 t32 t33 t34 : Tok} {oI oC o1 o2 o3 : Obj} {r : List Ent} {xs : List Value} {R l news : List (Addr × Obj)}
  (N : News h₀ L h l) (hl : ∀ q ∈ ((PD, W.listOf (xs ++ [Value.ref T1, Value.ref T2, Value.ref T3]).toArray nl) :: (I, oI) :: (L' + 1 + 1 + 1 + 1, o3) :: (L' + 1 + 1 + 1, o2) :: (L' + 1 + 1, o1) :: (L' + 1, oC) ::
   (T3, { cls := .type "tuple", data := .seq #[.str (mk [c3]) t31, .int (a3 : Nat) t32, .int (n3 : Nat) t33, .int (p3 : Nat) t34] }) :: (T2, { cls := .type "tuple", data := .seq #[.str (mk [c2]) t21, .int (a2 : Nat) t22, .int (n2 : Nat) t23, .int (p2 : Nat) t24] }) ::
   (T1, { cls := .type "tuple", data := .seq #[.str (mk [c1]) t11, .int (a1 : Nat) t12, .int (n1 : Nat) t13, .int (p1 : Nat) t14] }) :: R : List (Addr × Obj)), q ∈ l) (hxs : xs = r.reverse.map entV) (hR : R = r.map entO ++ news) :
  News h₀ L h (rdLed L' PD I nl oI oC o1 o2 o3 ((T3, c3, (a3, n3, p3), t31, t32, t33, t34) :: (T2, c2, (a2, n2, p2), t21, t22, t23, t24) :: (T1, c1, (a1, n1, p1), t11, t12, t13, t14) :: r) news) := by
 have e : (((T3, c3, (a3, n3, p3), t31, t32, t33, t34) :: (T2, c2, (a2, n2, p2), t21, t22, t23, t24) :: (T1, c1, (a1, n1, p1), t11, t12, t13, t14) :: r : List Ent).reverse.map entV) = xs ++ [Value.ref T1, Value.ref T2, Value.ref T3] := by simp [entV, hxs]
 unfold rdLed
 rw [e]
 refine fun q hq => N q (hl q ?_)
 rw [hR]
 exact hq
theorem rd_dropT {h₀ h : Heap} {L : Addr} {a : Addr × Obj} {R : List (Addr × Obj)} (N : News h₀ L h (a :: R)) : News h₀ L h R := fun p hp => N p (List.mem_cons_of_mem _ hp)
end Mine
end
section
namespace Mine
section
variable {prog : Program} {w : World} {A : Around} {E : Value → Shared → Prop} {s : Shared} {env : Env} {h₀ : Heap} {L : Addr}
noncomputable abbrev cellR : Obj → Option Value → Prop := fun o mv => o.data = .cell mv
noncomputable abbrev blockO : Obj := { cls := .type "dict", data := .dict #[] }
theorem gen_cellrange {σ : Type} {elt iter : Expr} {ifs : List Expr} {more : List Comprehension} {x : Str} {px : Pos} {scope : Scope} {cl : List (Str × Addr)} {pos p : Pos} {rest : Value → Env → Sem Unit} {Q : Value → Shared → Prop} {r : Addr} {n : Nat} {t₀ u₀ v₀ : Tok} {m : Str → Option Value}
  (items : σ → List Value) (nn : σ → Nat) (Own : σ → List (Addr × Obj)) (tail : List (Addr × Obj)) (P : Nat → σ → Prop) (c₀ : σ)
  (hT : ∀ it acc cenv, compTurn (.ListComp elt (⟨.Name x px, iter, ifs, 0⟩ :: more) scope pos) 0 it acc cenv = (standAt p >>= fun _ => pyNext it >>= fun r => match r with
   | none => pure (.done .next)
   | some v => letOwnedTupleGo (.Name x px) it v >>= fun _ => assign (.Name x px) cenv v >>= fun _ => rest acc cenv >>= fun _ => again (.compLoop (.ListComp elt (⟨.Name x px, iter, ifs, 0⟩ :: more) scope pos) 0 it acc cenv)))
  (F : Fr h₀ L s.heap m) (N : News h₀ L s.heap (Own c₀ ++ tail)) (hr : IsRange s.heap r 0 (n : Int) 1 t₀ u₀ v₀) (hn : n ≤ 1000000) (hh : A.handled = none) (hc1 : items c₀ = []) (hc2 : nn c₀ = 0) (hP : P 0 c₀)
  (hcells : ∀ k, cellsFrom k scope.names cl = (x, k) :: cl) (hpush : ∀ h, pushCells h scope.names = h.push { cls := .type "cell", data := .cell none }) (hkind : scope.kind = .function)
  (hx : ∀ B C, (compEnvC scope ((x, B) :: cl) C env).kindOf x = some .cell) (hown : ∀ i c, P i c → ∀ p ∈ Own c, okOwn p.2 = true)
  (turn : ∀ (D C B I : Addr) (c : σ) (i : Nat) (ti : Tok) h tk oI oB, D < C → C < B → (∀ p ∈ (I, oI) :: tail, p.1 < D) → i < n → isIter oI = true → P i c → oB.data = .cell (some (.int (i : Int) ti)) → Fr h₀ L h m → News h₀ L h (((D, listOf (items c).toArray (nn c)) :: Own c) ++ ((B, oB) :: (I, oI) :: (C, blockO) :: tail)) →
   wpAny (model prog w) A (rest (.ref D) (compEnvC scope ((x, B) :: cl) C env)) (fun _ s₄ => CpEndB cellR h₀ L B I oI (fun c => (D, listOf (items c).toArray (nn c)) :: Own c) ((C, blockO) :: tail) m P (i + 1) { s with heap := h, toks := tk } s₄) (fun _ _ => False) { s with heap := h, toks := tk })
  (done : ∀ (D : Addr) (c : σ) h tk, P n c → Fr h₀ L h m → News h₀ L h ((D, listOf (items c).toArray (nn c)) :: (Own c ++ tail)) → Q (.ref D) { s with heap := h, toks := tk }) :
  wpAny (model prog w) A (pyIter (.ref r)) (fun it s₂ => GenGo prog w A env elt (⟨.Name x px, iter, ifs, 0⟩ :: more) scope cl pos Q E it s₂) E s := by
 refine wpAny_pyIter_range hr (rsmall hn) ?_
 unfold GenGo
 refine wpAny_newObj_type ?_
 simp only [newFunctionEnv, Option.isSome_some, if_true]
 refine wpAny_bind (wpAny_alloc ?_)
 refine wpAny_bind (wpAny_layCells _ (fun name kind cells => by cases hkc : kind == NameKind.cell <;> simp [hkc]) _ _ _ _ ?_)
 rw [hcells, hpush]
 refine wpAny_bind ?_
 rw [List.forIn_nil]
 refine wpAny_pure (wpAny_pure ?_)
 dsimp only
 generalize hoI0 : ({ cls := .type "range_iterator", data := .fields #[rawInt 0, rawInt (Builtin.Range.rangeSize 0 (n : Int) 1), rawInt 1] } : Obj) = oI0
 have F1 := F.push oI0
 have N1 : News h₀ L (s.heap.push oI0) (Own c₀ ++ tail) := fun p hp => ⟨Heap.get?_push_of_some _ (N p hp).1, (N p hp).2⟩
 have st1 : IsRangeIter (s.heap.push oI0) s.heap.objs.size (0 + ((0 : Nat) : Int) * 1) ((n : Int) - ((0 : Nat) : Int)) 1 := by rw [← hoI0, rsize]; simpa using Heap.get?_push_size _ rfl
 have hI0 : h₀.get? s.heap.objs.size = none := next_is_new F
 have hIL : s.heap.objs.size ≠ L := fun e => absurd F.ns.lt (e ▸ Nat.lt_irrefl _)
 have hs1 : (s.heap.push oI0).objs.size = s.heap.objs.size + 1 := Heap.size_push ..
 generalize hH1 : s.heap.push oI0 = H1 at *
 have F2 := F1.push { cls := .type "list", dict := none, data := .seq ([] : List Value).toArray }
 have N2 := News.push F1 N1 { cls := .type "list", dict := none, data := .seq ([] : List Value).toArray }
 have hs2 : (H1.push { cls := .type "list", dict := none, data := .seq ([] : List Value).toArray }).objs.size = H1.objs.size + 1 := Heap.size_push ..
 have up2 : ∀ b o, H1.get? b = some o → (H1.push { cls := .type "list", dict := none, data := .seq ([] : List Value).toArray }).get? b = some o := fun b o e => Heap.get?_push_of_some _ e
 generalize hH2 : H1.push { cls := .type "list", dict := none, data := .seq ([] : List Value).toArray } = H2 at *
 have F3 := F2.push blockO
 have N3 := News.push F2 N2 blockO
 have hs3 : (H2.push blockO).objs.size = H2.objs.size + 1 := Heap.size_push ..
 have up3 : ∀ b o, H2.get? b = some o → (H2.push blockO).get? b = some o := fun b o e => Heap.get?_push_of_some _ e
 have hNC : NsO blockO (fun _ => none) := by
  ((first | refine Mine.exE (ns_obj (Heap.Ns.new H2 (.type "dict"))) ?_ | refine Mine.anE (ns_obj (Heap.Ns.new H2 (.type "dict"))) ?_); intro o zo247; (first | refine Mine.exE zo247 ?_ | refine Mine.anE zo247 ?_); intro ho hN; clear zo247)
  have e : (H2.push blockO).get? H2.objs.size = some blockO := Heap.get?_push_size _ rfl
  rw [show (H2.push { cls := .type "dict", data := .dict #[] }).get? H2.objs.size = some blockO from e] at ho
  cases ho; exact hN
 generalize hH3 : H2.push blockO = H3 at *
 have F4 := F3.push { cls := .type "cell", data := .cell none }
 have N4 := News.push F3 N3 { cls := .type "cell", data := .cell none }
 have up4 : ∀ b o, H3.get? b = some o → (H3.push { cls := .type "cell", data := .cell none }).get? b = some o := fun b o e => Heap.get?_push_of_some _ e
 generalize hH4 : H3.push { cls := .type "cell", data := .cell none } = H4 at *
 have st4 : IsRangeIter H4 s.heap.objs.size (0 + ((0 : Nat) : Int) * 1) ((n : Int) - ((0 : Nat) : Int)) 1 := up4 _ _ (up3 _ _ (up2 _ _ st1))
 have hCL : H2.objs.size ≠ L := fun e => absurd F2.ns.lt (e ▸ Nat.lt_irrefl _)
 have hC0 : h₀.get? H2.objs.size = none := next_is_new F2
 have hBL : H3.objs.size ≠ L := fun e => absurd F3.ns.lt (e ▸ Nat.lt_irrefl _)
 have hB0 : h₀.get? H3.objs.size = none := next_is_new F3
 have W := Walks.range (prog := prog) (w := w) hh s.heap.objs.size 0 1 n
 have I1 : s.heap.objs.size < H1.objs.size := Nat.lt_of_lt_of_eq (Nat.lt_succ_self _) hs1.symm
 have D2 : H1.objs.size < H2.objs.size := Nat.lt_of_lt_of_eq (Nat.lt_succ_self _) hs2.symm
 have C3 : H2.objs.size < H3.objs.size := Nat.lt_of_lt_of_eq (Nat.lt_succ_self _) hs3.symm
 have I2 := Nat.lt_trans I1 D2
 have I3 := Nat.lt_trans I2 C3
 have D3 := Nat.lt_trans D2 C3
 have lt1 : ∀ p ∈ Own c₀ ++ tail, p.1 < s.heap.objs.size := fun p hp => Heap.lt_size (N p hp).1
 have loop : ∀ s₃ : Shared, s₃ = { s with heap := H4 } →
   codeAny (model prog w) A (.compLoop (.ListComp elt (⟨.Name x px, iter, ifs, 0⟩ :: more) scope pos) 0 (.ref s.heap.objs.size) (.ref H1.objs.size) (compEnvC scope ((x, H3.objs.size) :: cl) H2.objs.size env))
    (compPost (model prog w) A E none Q (.ref H1.objs.size) H2.objs.size) s₃ := by
  rintro s₃ rfl
  refine gen_turnsB (C := H3.objs.size) (R9 := cellR) (cenv := compEnvC scope ((x, H3.objs.size) :: cl) H2.objs.size env) (rest := rest (.ref H1.objs.size) (compEnvC scope ((x, H3.objs.size) :: cl) H2.objs.size env)) (mC₀ := none) (oC₀ := { cls := .type "cell", data := .cell none }) (fun _ v _ => some v) (fun c => (H1.objs.size, listOf (items c).toArray (nn c)) :: Own c) ((H2.objs.size, blockO) :: tail) P c₀ (hT _ _ _) W (fun i h st => range_iterC st) (fun b hb => .inl (List.mem_singleton.mp hb)) hI0 hIL hB0 hBL ?_ ?_ ?_ ?_ ?_ st4 ?_ F4 ?_ rfl hP ?_ ?_
  ·exact Nat.ne_of_gt I3
  ·exact fun q => absurd (List.mem_singleton.mp q) (Nat.ne_of_gt I3)
  ·intro q hq
   rcases List.mem_cons.mp hq with rfl | hq
   ·exact Nat.ne_of_lt C3
   ·exact Nat.ne_of_lt (Nat.lt_trans (lt1 q (List.mem_append.mpr (.inr hq))) I3)
  ·intro q
   ((first | refine Mine.exE (List.mem_map.mp q) ?_ | refine Mine.anE (List.mem_map.mp q) ?_); intro q1 zo248; (first | refine Mine.exE zo248 ?_ | refine Mine.anE zo248 ?_); intro hq e; clear zo248)
   rcases List.mem_cons.mp hq with rfl | hq
   ·exact absurd e (Nat.ne_of_lt D3)
   ·exact absurd e (Nat.ne_of_lt (Nat.lt_trans (lt1 q1 (List.mem_append.mpr (.inl hq))) I3))
  ·intro q hq
   rcases List.mem_append.mp hq with hq | hq
   ·rcases List.mem_cons.mp hq with rfl | hq
    ·exact Nat.ne_of_gt I1
    ·exact Nat.ne_of_lt (lt1 q (List.mem_append.mpr (.inl hq)))
   ·rcases List.mem_cons.mp hq with rfl | hq
    ·exact Nat.ne_of_gt I2
    ·exact Nat.ne_of_lt (lt1 q (List.mem_append.mpr (.inr hq)))
  ·rintro c i v h₁ tk₁ mC Q' E' _ ⟨t, rfl⟩ _ _ ⟨o, ho, hR⟩ _ hQ
   refine wpAny_of_eq (show letOwnedTupleGo (.Name x px) _ _ = pure () from rfl) ?_
   refine wpAny_assign_Name (wpAny_storeName_cell (by simp [compEnvC, relabel, hkind]) (hx _ _) (by simp [compEnvC]) ⟨o, ho, hR⟩ fun h' hc' hs' => ?_)
   ((first | refine Mine.exE hc' ?_ | refine Mine.anE hc' ?_); intro o2 zo249; clear hc'; (first | refine Mine.exE zo249 ?_ | refine Mine.anE zo249 ?_); intro ho2 hR2; clear zo249)
   exact hQ h' _ ⟨o2, ho2, hR2⟩ fun b o' hb e => (hs'.2 b hb).trans e
  ·rw [hc1, hc2]
   intro q hq
   refine N4 q ?_
   simp only [List.cons_append, List.mem_cons, List.mem_append] at hq ⊢
   rcases hq with h | h | h | h | h
   ·exact .inr (.inr (.inl h))
   ·exact .inr (.inr (.inr (.inl h)))
   ·exact .inl h
   ·exact .inr (.inl h)
   ·exact .inr (.inr (.inr (.inr h)))
  ·rintro c i v h tk oI oC mC hi ⟨t, rfl⟩ ho hc hR F' N'
   have e : (0 : Int) + (i : Int) * 1 = (i : Int) := by omega
   rw [e] at hR
   refine turn _ _ _ _ c i t h tk oI oC D2 C3 ?_ hi ho hc hR F' N'
   intro q hq
   rcases List.mem_cons.mp hq with rfl | hq
   ·exact I1
   ·exact Nat.lt_trans (lt1 q (List.mem_append.mpr (.inr hq))) I1
  ·intro c h tk oC mC hPn hR hne F' N'
   have hCm := (N' (H2.objs.size, blockO) (List.mem_append.mpr (.inr (List.mem_cons_of_mem _ (List.mem_cons_self ..))))).1
   refine ⟨_, hNC.ns hCm, fun h' hs' => ?_⟩
   refine done _ c h' tk hPn (sameBut_fr F' hs' (fun q => hCL q.symm) hC0) fun q hq => ?_
   have key : q ∈ ((H1.objs.size, listOf (items c).toArray (nn c)) :: Own c) ++ ((H3.objs.size, oC) :: (H2.objs.size, blockO) :: tail) ∧ q.1 ≠ H2.objs.size := by
    rcases List.mem_cons.mp hq with rfl | hq
    ·exact ⟨List.mem_append.mpr (.inl (List.mem_cons_self ..)), Nat.ne_of_lt D2⟩
    ·rcases List.mem_append.mp hq with h1 | h1
     ·have hm : q ∈ ((H1.objs.size, listOf (items c).toArray (nn c)) :: Own c) ++ ((H3.objs.size, oC) :: (H2.objs.size, blockO) :: tail) := List.mem_append.mpr (.inl (List.mem_cons_of_mem _ h1))
      refine ⟨hm, fun e => ?_⟩
      have e1 := (N' q hm).1
      rw [e, hCm] at e1
      have h2 := hown n c hPn q h1
      rw [← Option.some.inj e1] at h2
      cases h2
     ·refine ⟨List.mem_append.mpr (.inr (List.mem_cons_of_mem _ (List.mem_cons_of_mem _ h1))), ?_⟩
      exact Nat.ne_of_lt (Nat.lt_trans (lt1 q (List.mem_append.mpr (.inr h1))) I2)
   have q9 := N' q key.1
   exact ⟨(hs'.2 q.1 key.2).trans q9.1, q9.2⟩
 exact codeAny_compStart_list (loop _ rfl) (W.self 0 _ _ _ st4 (loop _ rfl))
end
end Mine
end
section
namespace Mine
noncomputable abbrev Lev := Addr × Nat × List Value × List Tree
noncomputable def levR (e : Lev) : Value := .ref e.1
noncomputable def levO (e : Lev) : Addr × Obj := (e.1, W.listOf e.2.2.1.toArray e.2.1)
noncomputable def kT (c : Nat) (t : Tree) : Str := mk (flat c t ++ [10])
theorem kT_inj {c : Nat} (hc : c < 256) : ∀ t u : Tree, kT c t = kT c u → t = u := flat_key hc [10]
theorem kT_len (c : Nat) (t : Tree) : (kT c t).length = 2 * size t + 2 := by
 unfold kT
 rw [mk_length, List.length_append, flat_len]; simp; omega
noncomputable def levOk (c : Nat) (e : Lev) : Prop := StrsAre e.2.2.1 (e.2.2.2.map (kT c))
noncomputable abbrev TyS := Obj × Nat × List (Tree × Int) × List Lev
noncomputable def tyOwn (LV KD : Addr) (s : TyS) : List (Addr × Obj) := (KD, s.1) :: (LV, W.listOf (s.2.2.2.reverse.map levR).toArray s.2.1) :: s.2.2.2.map levO
noncomputable def tyP (prog : Program) (w : World) (c : Nat) (LV : Addr) (i : Nat) (s : TyS) : Prop :=
 TD prog w s.1 (upD (kT c) s.2.2.1) ∧ s.2.2.1 = (tallyS i).1 ∧ s.2.2.2.reverse.map (·.2.2.2) = (tallyS i).2 ∧ ∀ e ∈ s.2.2.2, levOk c e ∧ e.1 ≠ LV
noncomputable def NestI (V : List (List Nat)) (us : List Value) (os : List (Addr × Obj)) : Prop :=
 us.length = V.length ∧ (∀ p ∈ os, ∃ (vs : List Value) (n : Nat) (a : Int) (u : Tok) (r : List Value), p.2 = W.listOf vs.toArray n ∧ vs = .int a u :: r) ∧ ∀ (i : Nat) (row : List Nat), V[i]? = some row → ∃ (A : Addr) (vs : List Value) (n : Nat), us[i]? = some (.ref A) ∧ (A, W.listOf vs.toArray n) ∈ os ∧ IntsAre vs (row.map fun (d : Nat) => ((d : Nat) : Int))
theorem ty_names {h₀ h : Heap} {L LV A0 KD a b : Addr} {x : Str} {t : Tok} {o1 o2 o3 : Obj} {news : List (Addr × Obj)} (_ : News h₀ L h ((LV, W.listOf #[Value.ref A0] 0) :: (A0, W.listOf #[Value.str x t] 0) :: (KD, o1) :: (a, o2) :: (b, o3) :: news)) :
  ∃ t' o1' o2' o3', t' = t ∧ o1' = o1 ∧ o2' = o2 ∧ o3' = o3 := ⟨t, o1, o2, o3, rfl, rfl, rfl, rfl⟩
theorem lev_iter (lv : List Lev) : ∀ p ∈ lv.map levO, isIter p.2 = false := by
 intro p hp
 obtain ⟨e, _, rfl⟩ := List.mem_map.mp hp
 exact isIter_cls rfl (by decide)
theorem start_text (c : Nat) : mk [c] ++ Str.ofString "\n" = kT c .leaf := by
 rw [show Str.ofString "\n" = mk [10] from by decide +kernel, mk_append]; rfl
noncomputable def lastT (i : Nat) : List Tree := (tallyS i).2.getLastD []
theorem last_facts : ∀ i, i < 3 → lastT i ≠ [] ∧ (lastT i).length ≤ 3 ∧ (∀ t ∈ lastT i, size t = i) ∧ (grownT (lastT i)).length ≤ 15 ∧ (grownT (lastT i)) ≠ [] := by
 have key : ∀ i, i < 3 → ((lastT i).length ≤ 3 ∧ 0 < (lastT i).length ∧ ((lastT i).all fun t => size t == i) = true ∧ (grownT (lastT i)).length ≤ 15 ∧ 0 < (grownT (lastT i)).length) := by decide +kernel
 intro i hi
 obtain ⟨a, b, c, d, e⟩ := key i hi
 refine ⟨List.ne_nil_of_length_pos b, a, fun t ht => ?_, d, List.ne_nil_of_length_pos e⟩
 have := List.all_eq_true.mp c t ht
 simpa using this
theorem lev_split {lv : List Lev} {i : Nat} (hi : i < 3) (h : lv.reverse.map (·.2.2.2) = (tallyS i).2) : ∃ A n vs rest, lv = (A, n, vs, lastT i) :: rest := by
 cases lv with
 | nil =>
  have : (tallyS i).2 = [] := h.symm
  exact absurd (by unfold lastT; rw [this]; rfl) (last_facts i hi).1
 | cons e rest =>
  obtain ⟨A, n, vs, ts⟩ := e
  refine ⟨A, n, vs, rest, ?_⟩
  have : ts = lastT i := by
   unfold lastT
   rw [← h]
   simp
  rw [this]
section
variable {prog : Program} {w : World} {A : Around} {E : Value → Shared → Prop} {s : Shared} {Q : Value → Shared → Prop}
theorem item_two2 {value slice : Expr} {l : Addr} {xs : List Value} {u : Tok} {a b : Value} (hl : s.heap.IsList l (xs ++ [a, b]).toArray) (h : Q a s)
  (hs : subscripted slice false (.ref l) (.int (-2) u) = operate [.ref l, .int (-2) u] (getItem (.ref l) (.int (-2) u)) := by with_unfolding_all rfl) :
  wpAny (model prog w) A (subscriptTail value slice (.ref l) (.int (-2) u)) Q E s := by
 have e : (-2 + ((xs ++ [a, b]).length : Int)) = (xs.length : Int) := by simp; omega
 exact item_neg hl (by decide) (by decide) (by rw [e, Int.toNat_natCast]; simp) (by rw [e]; omega) h hs
theorem item_two1 {value slice : Expr} {l : Addr} {xs : List Value} {u : Tok} {a b : Value} (hl : s.heap.IsList l (xs ++ [a, b]).toArray) (h : Q b s)
  (hs : subscripted slice false (.ref l) (.int (-1) u) = operate [.ref l, .int (-1) u] (getItem (.ref l) (.int (-1) u)) := by with_unfolding_all rfl) :
  wpAny (model prog w) A (subscriptTail value slice (.ref l) (.int (-1) u)) Q E s := by
 have e : (-1 + ((xs ++ [a, b]).length : Int)) = ((xs.length + 1 : Nat) : Int) := by simp; omega
 exact item_neg hl (by decide) (by decide) (by rw [e, Int.toNat_natCast]; simp) (by rw [e]; omega) h hs
end
theorem ty_open {h₀ h : Heap} {L LV KD A : Addr} {oK : Obj} {nl n : Nat} {kn : List (Tree × Int)} {vs : List Value} {ts : List Tree} {rest : List Lev} {i b c : Addr × Obj} {news R : List (Addr × Obj)} {xs : List Value}
  (N : News h₀ L h (tyOwn LV KD (oK, nl, kn, (A, n, vs, ts) :: rest) ++ (i :: b :: c :: news))) (hxs : xs = rest.reverse.map levR) (hR : R = rest.map levO ++ news) :
  News h₀ L h ((KD, oK) :: (LV, W.listOf (xs ++ [Value.ref A]).toArray nl) :: i :: b :: c :: (A, W.listOf vs.toArray n) :: R) := by
 have e : ((A, n, vs, ts) :: rest : List Lev).reverse.map levR = xs ++ [Value.ref A] := by simp [levR, hxs]
 unfold tyOwn at N
 dsimp only at N
 rw [e] at N
 refine news_re N fun p hp => ?_
 rw [hR] at hp
 simp only [List.map_cons, List.cons_append, List.mem_cons, List.mem_append] at hp ⊢
 rcases hp with h | h | h | h | h | h | h | h
 ·exact .inl h
 ·exact .inr (.inl h)
 ·exact .inr (.inr (.inr (.inr (.inl h))))
 ·exact .inr (.inr (.inr (.inr (.inr (.inl h)))))
 ·exact .inr (.inr (.inr (.inr (.inr (.inr (.inl h))))))
 ·exact .inr (.inr (.inl h))
 ·exact .inr (.inr (.inr (.inl h)))
 ·exact .inr (.inr (.inr (.inr (.inr (.inr (.inr h))))))
theorem td_cls {prog : Program} {w : World} {o : Obj} {c : List (Str × Int)} (h : TD prog w o c) : o.cls = .type "dict" := by
 obtain ⟨_, ⟨es, ep, hx, _⟩, _⟩ := h
 exact hx.1
theorem td_list {prog : Program} {w : World} {o : Obj} {c : List (Str × Int)} {vs : Array Value} {n : Nat} (h : TD prog w o c) : o ≠ W.listOf vs n := by
 rintro rfl
 have := td_cls h
 simp [W.listOf] at this
theorem td_cell {prog : Program} {w : World} {o oc : Obj} {c : List (Str × Int)} (h : TD prog w o c) (hc : cellO oc) : o ≠ oc := by
 rintro rfl
 obtain ⟨v, hc⟩ := hc
 obtain ⟨_, ⟨es, ep, _, hx, _⟩, _⟩ := h
 rw [hx] at hc; cases hc
theorem lev_off {rest : List Lev} {news R : List (Addr × Obj)} {LV L' : Addr} (hR : R = rest.map levO ++ news) (h : ∀ e ∈ rest, e.1 ≠ LV) (hn : ∀ p ∈ news, p.1 < L') (hL : L' < LV) : ∀ p ∈ R, p.1 ≠ LV := by
 intro p hp
 rw [hR] at hp
 rcases List.mem_append.mp hp with hp | hp
 ·obtain ⟨e, he, rfl⟩ := List.mem_map.mp hp
  exact h e he
 ·exact Nat.ne_of_lt (Nat.lt_trans (hn p hp) hL)
theorem allLt_of2 {d : Addr} : ∀ {l : List (Addr × Obj)}, AllLt d l → ∀ p ∈ l, p.1 < d
 | [], _ => fun _ h => nomatch h
 | q :: l, h => fun p hp => by
  rcases List.mem_cons.mp hp with rfl | hp
  ·exact h.1
  ·exact allLt_of2 h.2 p hp
theorem tally_lens : ∀ i, i < 3 → (tallyS i).2.length ≤ 3 := by decide +kernel
theorem lev_len {A : Addr} {n i : Nat} {vs : List Value} {ts : List Tree} {rest : List Lev} {xs : List Value} (hi : i < 3) (h : ((A, n, vs, ts) :: rest : List Lev).reverse.map (·.2.2.2) = (tallyS i).2) (hxs : xs = rest.reverse.map levR) : xs.length ≤ 3 := by
 have h1 := congrArg List.length h
 have h2 := tally_lens i hi
 have h3 := congrArg List.length hxs
 simp at h1 h3
 omega
theorem ty_two {h₀ h : Heap} {L LV A AN : Addr} {nl : Nat} {xs : List Value} {a b : Addr × Obj} {l : List (Addr × Obj)} (N : News h₀ L h (a :: b :: (LV, W.listOf ((xs ++ [Value.ref A]).toArray.push (Value.ref AN)) nl) :: l)) :
  News h₀ L h (a :: b :: (LV, W.listOf (xs ++ [Value.ref A, Value.ref AN]).toArray nl) :: l) := by
 have e : (xs ++ [Value.ref A]).toArray.push (Value.ref AN) = (xs ++ [Value.ref A, Value.ref AN]).toArray := by simp
 rwa [e] at N
theorem put_f (w : World) (c : Nat) (hc : c < 256) (t : Tree) (i : Nat) (hi : i < 1 + 2 * size t) (ht : size t ≤ 5) (u v : Tok) :
  Ctr w 120 10 100 [.str (kT c t) u, .int i v] (fun _ => True) (fun r tl => tl = [] ∧ ∃ k, r = .str (kT c (putT t i)) k) := by
 have hl := flat_len t c
 have e : putL (flat c t ++ [10]) i = flat c (putT t i) ++ [10] := by
  rw [putL_l (by omega), put_flat t c i hc hi]
 have h := put_c w (flat c t ++ [10]) i (by simp; omega) (by simp; omega) (by
  intro x hx
  rcases List.mem_append.mp hx with hx | hx
  ·exact flat_lt t c hc x hx
  ·rw [List.mem_singleton.mp hx]; decide) u v
 rw [e] at h
 exact h
theorem strs_get {us : List Value} {ys : List Str} (h : StrsAre us ys) : ∀ {i : Nat} {v : Value}, us[i]? = some v → ∃ y t, ys[i]? = some y ∧ v = .str y t := by
 induction h with
 | nil => intro i v h; simp at h
 | cons y t _ ih =>
  intro i v hv
  cases i with
  | zero => exact ⟨y, t, rfl, by simpa using hv.symm⟩
  | succ i => exact ih (by simpa using hv)
theorem grown_step {l : List Tree} {i : Nat} {t : Tree} (h : l[i]? = some t) : grownT (l.take (i + 1)) = grownT (l.take i) ++ (List.range (1 + 2 * size t)).map (putT t) := by
 unfold grownT
 rw [List.take_add_one, h, List.flatMap_append]
 simp
theorem grown_le {l : List Tree} {i j : Nat} {t : Tree} (h : l[i]? = some t) (hj : j ≤ 1 + 2 * size t) : (grownT (l.take i) ++ (List.range j).map (putT t)).length ≤ (grownT l).length := by
 have e : grownT l = grownT (l.take (i + 1)) ++ grownT (l.drop (i + 1)) := by
  unfold grownT
  rw [← List.flatMap_append, List.take_append_drop]
 rw [e, grown_step h]
 simp; omega
theorem ty_src {h₀ h : Heap} {L : Addr} {a b c d e f g : Addr × Obj} {R : List (Addr × Obj)} (N : News h₀ L h (a :: b :: c :: d :: e :: f :: g :: R)) : News h₀ L h (g :: a :: b :: c :: d :: e :: f :: R) :=
 news_re N (by walk_at "n")
theorem cp_appJ1 {J : (Str → Option Value) → Prop} {h₀ h' : Heap} {L C I D : Addr} {oI oC : Obj} {tail : List (Addr × Obj)} {m mC : Str → Option Value} {P : Nat → List Value → Prop} {i : Nat} {s₁ : Shared} {tk : Nat} {c : List Value} {v : Value}
  (F : Fr h₀ L h' m) (N : News h₀ L h' ((D, W.listOf (c.toArray.push v) (c.length + 1)) :: (C, oC) :: (I, oI) :: tail)) (hC : NsO oC mC) (hp : P i (c ++ [v])) (hJ : J mC) :
  CpEndJ J h₀ L C I oI (fun c => [(D, W.listOf c.toArray c.length)]) tail m P i s₁ { s₁ with heap := h', toks := tk } := by
 refine cp_appJ (items := fun c => c) (nn := fun c => c.length) (Own := fun _ => []) (us := c) (v := v) (fun v9 => c ++ [v9]) F N hC (List.mem_cons_self ..) rfl (by simp) ?_ (List.mem_cons_of_mem _ (List.mem_cons_of_mem _ (List.mem_cons_self ..))) (List.mem_cons_of_mem _ (List.mem_cons_self ..)) (fun _ h => nomatch h) hp hJ
 intro p hp
 simp only [List.nil_append, List.mem_cons] at hp ⊢
 simp [hp]
theorem rnd_tree2 {t : Tree} {s : Nat} (hs : s < 256) (ht : t ≠ .leaf) : rnd (flat s t) = flat s (roundT t) := by
 have := rnd_flat t s [] hs (.inr ht)
 rw [List.append_nil, rnd_nil, List.append_nil] at this
 exact this
theorem dec_f (w : World) (c : Nat) (hc : c < 256) (g : Tree) (hg : g ≠ .leaf) (hs : size g ≤ 5) (u : Tok) :
  Ctr w 57 10 100 [.str (kT c g) u] (fun _ => True) (fun r tl => tl = [] ∧ ∃ k, r = .str (kT c (roundT g)) k) := by
 have hl := flat_len g c
 have h := decode1_c w (flat c g ++ [10]) (by simp) (by simp; omega) u
 have hHE : (flat c g).all HE = true := by
  rw [List.all_eq_true]
  exact fun x hx => AL_HE (flat_AL g c hc (.inr hg) x hx)
 obtain ⟨l, z, e9, hz⟩ := flat_last g c hc (.inr hg)
 rw [dec_nl hHE (by rw [e9]; simp) (by rw [e9, List.getLast?_append]; simp; exact hz), rnd_tree2 hc hg] at h
 exact h
theorem td_isIter2 {prog : Program} {w : World} {o : Obj} {c : List (Str × Int)} (h : TD prog w o c) : isIter o = false := isIter_cls (td_cls h) (by decide)
theorem lev_offK {prog : Program} {w : World} {h₀ h : Heap} {L KD L' : Addr} {oK : Obj} {kc : List (Str × Int)} {rest : List Lev} {news R l : List (Addr × Obj)} (hR : R = rest.map levO ++ news) (N : News h₀ L h l) (hK : (KD, oK) ∈ l) (hl : ∀ p ∈ R, p ∈ l) (hT : TD prog w oK kc) (hn : ∀ p ∈ news, p.1 < L') (hL : L' < KD) : ∀ p ∈ R, p.1 ≠ KD := by
 intro p hp
 have hp2 := hp
 rw [hR] at hp2
 rcases List.mem_append.mp hp2 with h1 | h1
 ·obtain ⟨e, he, rfl⟩ := List.mem_map.mp h1
  exact Ne.symm (ne_obj N hK (hl _ hp) (td_list hT))
 ·exact Nat.ne_of_lt (Nat.lt_trans (hn p h1) hL)
theorem grown_node {l : List Tree} {i : Nat} {g : Tree} (hl : ∀ t ∈ l, size t = i) (hg : g ∈ grownT l) : g ≠ .leaf ∧ size g = i + 1 := by
 unfold grownT at hg
 simp only [List.mem_flatMap, List.mem_map, List.mem_range] at hg
 obtain ⟨t, ht, p, _, rfl⟩ := hg
 have h := size_put t p
 rw [hl t ht] at h
 refine ⟨fun e => ?_, h⟩
 rw [e] at h; cases h
theorem dPut_len (c : List (Tree × Int)) (k : Tree) (v : Int) : (dPut c k v).length ≤ c.length + 1 := by
 unfold dPut
 split
 ·simp
 ·simp
theorem fold_len : ∀ (l : List Tree) (st : List (Tree × Int) × List Tree), (l.foldl tallyStep st).1.length ≤ st.1.length + l.length ∧ (l.foldl tallyStep st).2.length ≤ st.2.length + l.length
 | [], st => ⟨Nat.le_refl _, Nat.le_refl _⟩
 | g :: l, st => by
  have ih := fold_len l (tallyStep st g)
  have h1 : (tallyStep st g).1.length ≤ st.1.length + 1 ∧ (tallyStep st g).2.length ≤ st.2.length + 1 := by
   unfold tallyStep
   split
   ·exact ⟨Nat.le_succ _, Nat.le_succ _⟩
   ·exact ⟨dPut_len _ _ _, by simp⟩
  simp only [List.foldl_cons, List.length_cons]
  omega
theorem known_len : ∀ i, i < 3 → (tallyS i).1.length ≤ 20 := by decide +kernel
theorem fold_small {i j : Nat} {kn2 : List (Tree × Int)} {ts2 : List Tree} (hi : i < 3) (hl : (grownT (lastT i)).length ≤ 15) (h : (kn2, ts2) = ((grownT (lastT i)).take j).foldl tallyStep ((tallyS i).1, [])) : kn2.length ≤ 35 ∧ ts2.length ≤ 15 := by
 have h1 := fold_len ((grownT (lastT i)).take j) ((tallyS i).1, [])
 rw [← h] at h1
 have h2 := known_len i hi
 have h3 : ((grownT (lastT i)).take j).length ≤ 15 := by simp; omega
 simp only [List.length_nil] at h1
 omega
theorem up_len (f : Tree → Str) (c : List (Tree × Int)) : (upD f c).length = c.length := by simp [upD]
theorem app_obj3 (us : List Value) (v : Value) : W.listOf (us.toArray.push v) (us.length + 1) = W.listOf (us ++ [v]).toArray (us ++ [v]).length := by simp
theorem td_name {prog : Program} {w : World} {o : Obj} {c : List (Str × Int)} (_ : TD prog w o c) : ∃ o', o' = o := ⟨o, rfl⟩
theorem ty_close {h₀ h : Heap} {L LV KD A AN : Addr} {oK : Obj} {nl n n2 : Nat} {kn : List (Tree × Int)} {vs vs2 xs : List Value} {ts ts2 : List Tree} {rest : List Lev} {d i b c : Addr × Obj} {news R : List (Addr × Obj)}
  (N : News h₀ L h ([(KD, oK), (AN, W.listOf vs2.toArray n2)] ++ (d :: (LV, W.listOf (xs ++ [Value.ref A, Value.ref AN]).toArray nl) :: i :: b :: c :: (A, W.listOf vs.toArray n) :: R))) (hxs : xs = rest.reverse.map levR) (hR : R = rest.map levO ++ news) :
  News h₀ L h (tyOwn LV KD (oK, nl, kn, (AN, n2, vs2, ts2) :: (A, n, vs, ts) :: rest) ++ (i :: b :: c :: news)) := by
 have e : ((AN, n2, vs2, ts2) :: (A, n, vs, ts) :: rest : List Lev).reverse.map levR = xs ++ [Value.ref A, Value.ref AN] := by simp [levR, hxs]
 unfold tyOwn
 dsimp only
 rw [e]
 refine news_re N fun p hp => ?_
 rw [hR]
 simp only [levO, List.map_cons, List.cons_append, List.nil_append, List.mem_cons, List.mem_append] at hp ⊢
 rcases hp with h | h | h | h | h | h | h | h | h
 ·exact .inl h
 ·exact .inr (.inr (.inr (.inl h)))
 ·exact .inr (.inl h)
 ·exact .inr (.inr (.inr (.inr (.inr (.inr (.inr (.inl h)))))))
 ·exact .inr (.inr (.inr (.inr (.inr (.inr (.inr (.inr (.inl h))))))))
 ·exact .inr (.inr (.inr (.inr (.inl h))))
 ·exact .inr (.inr (.inr (.inr (.inr (.inl h)))))
 ·exact .inr (.inr (.inr (.inr (.inr (.inr (.inl h))))))
 ·exact .inr (.inr (.inr (.inr (.inr (.inr (.inr (.inr (.inr h))))))))
theorem tally_next {A AN : Addr} {n n2 i : Nat} {vs vs2 : List Value} {ts2 : List Tree} {rest : List Lev} (h : ((A, n, vs, lastT i) :: rest : List Lev).reverse.map (·.2.2.2) = (tallyS i).2) (h2 : ts2 = ((grownT (lastT i)).foldl tallyStep ((tallyS i).1, [])).2) :
  ((AN, n2, vs2, ts2) :: (A, n, vs, lastT i) :: rest : List Lev).reverse.map (·.2.2.2) = (tallyS (i + 1)).2 := by
 rw [List.reverse_cons, List.map_append, h, h2]
 rfl
theorem ty_last {h₀ h : Heap} {L LV KD : Addr} {oK : Obj} {nl : Nat} {kn : List (Tree × Int)} {lv : List Lev} {b c : Addr × Obj} {news R : List (Addr × Obj)} {us : List Value}
  (N : News h₀ L h (tyOwn LV KD (oK, nl, kn, lv) ++ (b :: c :: news))) (hus : us = lv.reverse.map levR) (hR : R = lv.map levO ++ news) :
  News h₀ L h ((LV, W.listOf us.toArray nl) :: (KD, oK) :: b :: c :: R) := by
 unfold tyOwn at N
 dsimp only at N
 rw [← hus] at N
 refine news_re N fun p hp => ?_
 rw [hR] at hp
 simp only [List.cons_append, List.mem_cons, List.mem_append] at hp ⊢
 rcases hp with h | h | h | h | h | h
 ·exact .inr (.inl h)
 ·exact .inl h
 ·exact .inr (.inr (.inr (.inl h)))
 ·exact .inr (.inr (.inr (.inr (.inl h))))
 ·exact .inr (.inr (.inl h))
 ·exact .inr (.inr (.inr (.inr (.inr h))))
theorem NestI.own {V : List (List Nat)} {us : List Value} {os : List (Addr × Obj)} (h : NestI V us os) : ∀ p ∈ os, okOwn p.2 = true := fun p hp => by
 obtain ⟨vs, n, _, _, _, e, _⟩ := h.2.1 p hp
 rw [e]; rfl
theorem NestI.snoc {V : List (List Nat)} {us : List Value} {os : List (Addr × Obj)} (h : NestI V us os) {row : List Nat} {A : Addr} {vs : List Value} {n : Nat} (hv : IntsAre vs (row.map fun (d : Nat) => ((d : Nat) : Int))) (hr : row ≠ []) :
  NestI (V ++ [row]) (us ++ [.ref A]) ((A, W.listOf vs.toArray n) :: os) := by
 obtain ⟨h1, h2, h3⟩ := h
 refine ⟨by simp [h1], fun p hp => ?_, fun i q hq => ?_⟩
 ·rcases List.mem_cons.mp hp with rfl | hp
  ·cases row with
   | nil => exact absurd rfl hr
   | cons d row =>
    rw [List.map_cons] at hv
    cases hv with
    | cons a u _ => exact ⟨_, n, _, _, _, rfl, rfl⟩
  ·exact h2 p hp
 ·by_cases hi : i < V.length
  ·rw [List.getElem?_append_left hi] at hq
   obtain ⟨A', vs', n', e1, e2, e3⟩ := h3 i q hq
   exact ⟨A', vs', n', by rw [List.getElem?_append_left (by omega)]; exact e1, List.mem_cons_of_mem _ e2, e3⟩
  ·rw [List.getElem?_append_right (by omega)] at hq
   have hi2 : i - V.length = 0 := by
    have := (List.getElem?_eq_some_iff.mp hq).1
    simp at this; omega
   rw [hi2] at hq
   cases hq
   exact ⟨A, vs, n, by rw [List.getElem?_append_right (by omega), h1, hi2]; rfl, List.mem_cons_self .., hv⟩
theorem ty_row {h₀ h : Heap} {L : Addr} {d b i c l k x y : Addr × Obj} {os R : List (Addr × Obj)} (N : News h₀ L h ((d :: os) ++ (b :: i :: c :: l :: k :: x :: y :: R))) : News h₀ L h (l :: d :: b :: i :: c :: k :: x :: y :: (os ++ R)) :=
 news_re N (by walk_at "n")
theorem tallyV_len : tallyV.length = 4 := by rw [tallyV_eq]; rfl
noncomputable def cntR (r : Nat) (ts : List Tree) : Nat := (ts.filter fun t => decide (dLook (tallyS 3).1 t 0 ≤ (r : Int))).length
theorem tallyV_row {r : Nat} (hr : r < 4) : tallyV[r]? = some ((tallyS 3).2.map (cntR r)) := by
 unfold tallyV
 rw [List.getElem?_map, List.getElem?_range hr]; rfl
theorem lev_get {lv : List Lev} {us : List Value} (hus : us = lv.reverse.map levR) {i : Nat} {v : Value} (hv : us.toArray[i]? = some v) : ∃ e, lv.reverse[i]? = some e ∧ v = .ref e.1 ∧ e ∈ lv := by
 have hv : us[i]? = some v := by simpa using hv
 rw [hus, List.getElem?_map] at hv
 cases hq : lv.reverse[i]? with
 | none => rw [hq] at hv; cases hv
 | some e => rw [hq] at hv; exact ⟨e, rfl, (Option.some.inj hv).symm, List.mem_reverse.mp (List.mem_of_getElem? hq)⟩
theorem all_known : ∀ ts ∈ (tallyS 3).2, ∀ t ∈ ts, dHas (tallyS 3).1 t = true := by
 have key : ((tallyS 3).2.all fun ts => ts.all fun t => dHas (tallyS 3).1 t) = true := by decide +kernel
 intro ts hts t ht
 exact List.all_eq_true.mp (List.all_eq_true.mp key ts hts) t ht
theorem all_small : ∀ ts ∈ (tallyS 3).2, ts.length ≤ 12 := by
 have key : ((tallyS 3).2.all fun ts => decide (ts.length ≤ 12)) = true := by decide +kernel
 intro ts hts
 exact of_decide_eq_true (List.all_eq_true.mp key ts hts)
theorem rows_four : (tallyS 3).2.length = 4 := by decide +kernel
theorem news_dup {h₀ h : Heap} {L a : Addr} {o : Obj} {l : List (Addr × Obj)} (N : News h₀ L h l) (hm : (a, o) ∈ l) : News h₀ L h ((a, o) :: l) := fun p hp => by
 rcases List.mem_cons.mp hp with rfl | hp
 ·exact N _ hm
 ·exact N _ hp
theorem filter_step {α : Type} {S : List α} {f : α → Bool} {i : Nat} {q : α} (h : S[i]? = some q) : (S.take (i + 1)).filter f = (S.take i).filter f ++ (if f q = true then [q] else []) := by
 rw [List.take_add_one, h, List.filter_append]
 congr 1
 show List.filter f [q] = _
 rw [List.filter_cons]; rfl
theorem cp_keep0 {h₀ h' : Heap} {L C I D : Addr} {oI oC : Obj} {tail : List (Addr × Obj)} {m mC : Str → Option Value} {P : Nat → List Value → Prop} {i : Nat} {s₁ : Shared} {tk : Nat} {c : List Value}
  (F : Fr h₀ L h' m) (N : News h₀ L h' ((D, W.listOf c.toArray c.length) :: (C, oC) :: (I, oI) :: tail)) (hC : NsO oC mC) (hp : P i c) :
  CpEnd h₀ L C I oI (fun c => [(D, W.listOf c.toArray c.length)]) tail m P i s₁ { s₁ with heap := h', toks := tk } := by
 k_with_none
 k_with "storeName" => (k_here; (with_reducible show wpAny _ _ (storeName _ _ _) _ _ _); k_dflt (refine' Mine.storeF ?Fw67 ?Nw67 ?_ ?aw67 ?bw67; (case Fw67 => k_asm); (case Nw67 => k_asm); (case aw67 => exact Eq.refl ScopeKind.function); (case bw67 => exact Eq.refl (some NameKind.local)); k_whole; intro h7s m7s F7s N7s; (try k_sweep)))
 k_with "eval Name" => (k_here; (with_reducible show wpAny _ _ (eval (Expr.Name _ _) _) _ _ _); k_dflt (refine' nameX_L ?Fw68 ?vw68 ?_ ?aw68 ?bw68; (case Fw68 => k_asm); (case aw68 => exact Eq.refl ScopeKind.function); (case bw68 => exact Eq.refl (some NameKind.local)); (case vw68 => exact Eq.refl (some _)); k_whole))
 refine cp_end' (Own := fun c => [(D, W.listOf c.toArray c.length)]) c F N hC ?_ (List.mem_cons_of_mem _ (List.mem_cons_of_mem _ (List.mem_cons_self ..))) (List.mem_cons_of_mem _ (List.mem_cons_self ..)) ?_ hp
 ·walk_at "n"
 ·intro p hp
  rw [List.mem_singleton.mp hp]; rfl
theorem rows_step {S : List (List Tree)} {f : List Tree → Nat} {i : Nat} {q : List Tree} (h : S[i]? = some q) : (((S.take (i + 1)).map f).map fun (d : Nat) => ((d : Nat) : Int)) = (((S.take i).map f).map fun (d : Nat) => ((d : Nat) : Int)) ++ [((f q : Nat) : Int)] := by
 rw [List.take_add_one, h, List.map_append, List.map_append]; rfl
theorem nest_ne {V : List (List Nat)} {us : List Value} {os : List (Addr × Obj)} (h : NestI V us os) {a : Int} {u : Tok} {r : List Value} {n k : Nat} : W.listOf (Value.int a u :: r).toArray n ≠ W.listOf us.toArray k := by
 intro e
 injection e with e1 e2 e3 e4
 injection e3 with e5 e6
 have e7 := congrArg Array.toList e5
 replace e7 : Value.int a u :: r = us := e7
 have h1 := h.1
 rw [← e7] at h1
 cases hV : V with
 | nil => rw [hV] at h1; simp at h1
 | cons row V' =>
  obtain ⟨A, vs, m, e8, _⟩ := h.2.2 0 row (by rw [hV]; rfl)
  rw [← e7] at e8
  simp at e8
theorem cell_seq {o : Obj} {mv : Option Value} {vs : Array Value} {n : Nat} (h : o.data = .cell mv) : W.listOf vs n ≠ o := by
 rintro rfl
 cases h
theorem cp_appB1 {h₀ h' : Heap} {L C I B D D2 : Addr} {oI oB : Obj} {tail l os : List (Addr × Obj)} {m : Str → Option Value} {P : Nat → List Value × List (Addr × Obj) → Prop} {i : Nat} {s₁ : Shared} {tk n2 : Nat} {rs c2 : List Value} {mv : Option Value}
  (F : Fr h₀ L h' m) (N : News h₀ L h' l) (hD : (D, W.listOf (rs.toArray.push (.ref D2)) (rs.length + 1)) ∈ l) (hB : (B, oB) ∈ l) (hBo : oB.data = .cell mv) (hI : (I, oI) ∈ l) (hC : (C, blockO) ∈ l) (h2 : (D2, W.listOf c2.toArray n2) ∈ l) (hos : ∀ p ∈ os, p ∈ l) (ht : ∀ p ∈ tail, p ∈ l)
  (ho : ∀ p ∈ os, ∃ (vs : List Value) (n : Nat), p.2 = W.listOf vs.toArray n) (hP : P i (rs ++ [.ref D2], (D2, W.listOf c2.toArray n2) :: os)) :
  CpEndB cellR h₀ L B I oI (fun c => (D, W.listOf c.1.toArray c.1.length) :: c.2) ((C, blockO) :: tail) m P i s₁ { s₁ with heap := h', toks := tk } := by
 have e : W.listOf (rs.toArray.push (.ref D2)) (rs.length + 1) = W.listOf (rs ++ [Value.ref D2]).toArray (rs ++ [Value.ref D2]).length := app_obj3 _ _
 have all : ∀ p ∈ (D, W.listOf (rs ++ [Value.ref D2]).toArray (rs ++ [Value.ref D2]).length) :: (D2, W.listOf c2.toArray n2) :: os, p ∈ l ∧ ∃ (vs : List Value) (n : Nat), p.2 = W.listOf vs.toArray n := by
  intro p hp
  rcases List.mem_cons.mp hp with rfl | hp
  ·exact ⟨e ▸ hD, _, _, rfl⟩
  ·rcases List.mem_cons.mp hp with rfl | hp
   ·exact ⟨h2, _, _, rfl⟩
   ·exact ⟨hos p hp, ho p hp⟩
 refine ⟨(rs ++ [.ref D2], (D2, W.listOf c2.toArray n2) :: os), h', tk, l, oB, mv, rfl, F, N, ?_, hI, hB, hBo, ?_, ?_, hP⟩
 ·intro p hp
  rcases List.mem_append.mp hp with hp | hp
  ·exact (all p hp).1
  ·rcases List.mem_cons.mp hp with rfl | hp
   ·exact hC
   ·exact ht p hp
 ·intro p hp
  obtain ⟨_, vs, n, e2⟩ := all p hp
  rw [e2]; exact isIter_cls rfl (by decide)
 ·intro q
  obtain ⟨p, hp, e2⟩ := List.mem_map.mp q
  obtain ⟨hm, vs, n, e3⟩ := all p hp
  have e4 := (N p hm).1
  have e5 := (N _ hB).1
  rw [e2] at e4
  rw [show (B, oB).1 = B from rfl, e4] at e5
  have e6 : p.2 = oB := Option.some.inj e5
  rw [e3] at e6
  exact cell_seq hBo e6
theorem ints_head {c2 : List Value} {l : List Int} (h : IntsAre c2 l) (hl : l ≠ []) : ∃ a u r, c2 = Value.int a u :: r := by
 cases h with
 | nil => exact absurd rfl hl
 | cons a u _ => exact ⟨_, _, _, rfl⟩
theorem rows_ne {f : List Tree → Nat} {g : Nat → Int} : (((tallyS 3).2.map f).map g) ≠ [] := by
 intro e
 have := congrArg List.length e
 rw [List.length_map, List.length_map, rows_four] at this
 cases this
theorem rows_ne2 {f : List Tree → Nat} : ((tallyS 3).2.map f) ≠ [] := by
 intro e
 have := congrArg List.length e
 rw [List.length_map, rows_four] at this
 cases this
theorem nest_step {V : List (List Nat)} {i : Nat} {row : List Nat} (h : V[i]? = some row) : V.take (i + 1) = V.take i ++ [row] := by rw [List.take_add_one, h]; rfl
end Mine
end
section
namespace Mine
noncomputable def cubN (l : Nat) : Nat → Nat
 | 0 => 1
 | r + 1 => (65536 * cubN l r ^ 3 + 1) % 65536 ^ (l + 1)
theorem cubN_lt (l : Nat) : ∀ r, cubN l r < 65536 ^ (l + 1)
 | 0 => by
  have : 1 ≤ 65536 ^ l := Nat.pos_of_ne_zero (by simp)
  show 1 < 65536 ^ (l + 1)
  rw [Nat.pow_succ]; omega
 | r + 1 => Nat.mod_lt _ (Nat.pos_of_ne_zero (by simp))
theorem cub_pow (N : Nat) : ((N : Nat) : Int) ^ (3 : Int).toNat = ((N ^ 3 : Nat) : Int) := by
 rw [show (3 : Int).toNat = 3 from rfl]; simp
theorem cub_exp (l : Nat) : (65536 : Int) ^ ((l : Int) + 1).toNat = ((65536 ^ (l + 1) : Nat) : Int) := by
 rw [show ((l : Int) + 1).toNat = l + 1 by omega]; simp
end Mine
section
set_option maxHeartbeats 8000000 in
theorem Mine.cubed_c (w : World) (r l : Nat) (hr : r ≤ 5) (hl : l ≤ 5) (t u : Tok) :
  Mine.CtrT w 113 420 6400 [.int (r : Nat) t, .int (l : Nat) u] (fun r' tl => ∃ D vs, r' = .ref D ∧ tl = [(D, W.listOf vs.toArray 0)] ∧ IntsAre vs (Mine.digitsL (Mine.cubN l r) 16)) := by
 k_with_none
 k_with "storeName" => (k_here; (with_reducible show wpAny _ _ (storeName _ _ _) _ _ _); k_dflt (refine' Mine.storeF ?Fw69 ?Nw69 ?_ ?aw69 ?bw69; (case Fw69 => k_asm); (case Nw69 => k_asm); (case aw69 => exact Eq.refl ScopeKind.function); (case bw69 => exact Eq.refl (some NameKind.local)); k_whole; intro h7s m7s F7s N7s; (try k_sweep)))
 k_with "eval Name" => (k_here; (with_reducible show wpAny _ _ (eval (Expr.Name _ _) _) _ _ _); k_dflt (refine' nameX_L ?Fw70 ?vw70 ?_ ?aw70 ?bw70; (case Fw70 => k_asm); (case aw70 => exact Eq.refl ScopeKind.function); (case bw70 => exact Eq.refl (some NameKind.local)); (case vw70 => exact Eq.refl (some _)); k_whole))
 k_with "call ref" => (k_here; (with_reducible show wpAny _ _ (call (Value.ref 78) _) _ _ _); (first | (with_reducible rename News g' L' _ _ => hN9) | rename News g' L' _ _ => hN9); rw [hnews] at hN9; (rw [hx90]); walk_at "f"; k_dflt ((first | (refine' Mine.CtrL.use (Mine.i2d_c w x9 16 (by decide) (by decide) hx9 _ _) [] ?kBw71 ?kFw71 ?kXw71 hN9 hTI hTD hoff ?kxw71 ?kpw71 ?kTw71 ?kKw71 ?kdw71 ?kuw71 ?_) | (refine' Mine.CtrL.use (Mine.i2d_c w x9 16 (by decide) (by decide) hx9 _ _) [_] ?kBw71 ?kFw71 ?kXw71 hN9 hTI hTD hoff ?kxw71 ?kpw71 ?kTw71 ?kKw71 ?kdw71 ?kuw71 ?_) | (refine' Mine.CtrL.use (Mine.i2d_c w x9 16 (by decide) (by decide) hx9 _ _) [_, _] ?kBw71 ?kFw71 ?kXw71 hN9 hTI hTD hoff ?kxw71 ?kpw71 ?kTw71 ?kKw71 ?kdw71 ?kuw71 ?_) | (refine' Mine.CtrL.use (Mine.i2d_c w x9 16 (by decide) (by decide) hx9 _ _) [_, _, _] ?kBw71 ?kFw71 ?kXw71 hN9 hTI hTD hoff ?kxw71 ?kpw71 ?kTw71 ?kKw71 ?kdw71 ?kuw71 ?_) | (refine' Mine.CtrL.use (Mine.i2d_c w x9 16 (by decide) (by decide) hx9 _ _) [_, _, _, _] ?kBw71 ?kFw71 ?kXw71 hN9 hTI hTD hoff ?kxw71 ?kpw71 ?kTw71 ?kKw71 ?kdw71 ?kuw71 ?_) | (refine' Mine.CtrL.use (Mine.i2d_c w x9 16 (by decide) (by decide) hx9 _ _) [_, _, _, _, _] ?kBw71 ?kFw71 ?kXw71 hN9 hTI hTD hoff ?kxw71 ?kpw71 ?kTw71 ?kKw71 ?kdw71 ?kuw71 ?_)); (case kBw71 => k_asm); (case kFw71 => k_asm); (case kXw71 => k_asm); (case kxw71 => (repeat' (first | exact List.forall_mem_nil _ | (refine List.forall_mem_cons.mpr ⟨by first | exact Or.inl (by intro h; cases h) | exact Mine.offT_iter (by with_reducible assumption) | assumption, ?_⟩)))); (case kpw71 => trivial); (case kTw71 => k_asm); (case kKw71 => first | exact rfl | assumption); (case kdw71 => first | exact Mine.oDp (by with_reducible assumption) (by exact rfl) | exact Mine.oDq (by with_reducible assumption) (by exact rfl) | omega | ktr_room); (case kuw71 => first | exact Mine.oDp (by with_reducible assumption) (by exact rfl) | exact Mine.oDq (by with_reducible assumption) (by exact rfl) | omega | ktr_units);  k_whole); clear hN9; clear hnews; intro v9 tl9 tI tD h9 tk9 hp9 hTI hTD htl9 F9 N9; (refine Mine.nameE (a := tI ++ (tD ++ news0)) ?_; intro news hnews); rw [← hnews] at N9; (try dsimp only at hp9); ((refine Mine.foldG ?_; intro gk253; (first | refine Mine.exE hp9 ?_ | refine Mine.anE hp9 ?_); intro D9 zo250; clear hp9; (first | refine Mine.exE zo250 ?_ | refine Mine.anE zo250 ?_); intro vs9 zo251; clear zo250; (first | refine Mine.exE zo251 ?_ | refine Mine.anE zo251 ?_); intro e1 zo252; clear zo251; (first | refine Mine.exE zo252 ?_ | refine Mine.anE zo252 ?_); intro e2 hv9; clear zo252; unfold gk253; clear gk253); cases e1; cases e2); (try dsimp only [List.nil_append, List.cons_append] at N9); (try dsimp only); walk_at "f")
 k_with "pyIter ref" => (k_here; refine Mine.stop ?_)
 k_with "binaryOp Pow int int" => (k_here; k_dflt (refine' pow_int ?k1w73 ?k2w73 ?_; (case k1w73 => first | decide | omega); (case k2w73 => first | exact hsz1 | exact hsz2); k_whole); simp only [hpow, hexp])
 k_with "binaryOp Mod int int" => (k_here; refine Mine.stop ?_)
 have hn6 : r ≤ 1000 := by omega
 have hn5 : Mine.Stop (r ≤ 5) := hr
 clear hr
 ((try unfold Mine.CtrT); unfold Mine.CtrL; k_fill; intro p loose mean mg mb dp un gd cn cs a ccd cl outer A₀ base h₀ L m tI tD news0 s Q E B F X N hTI hTD hoff hpre T hk hd hu hret; (refine Mine.nameE (a := tI ++ (tD ++ news0)) ?_; intro news hnews); rw [← hnews] at N; refine wpAny_call ?_; k_dflt (refine' code_def (binds := [(Str.ofString "rounds", Value.int (r : Nat) t), (Str.ofString "limit", Value.int (l : Nat) u)]) ?k1 ?k2 ?k3 ?k4 ?k5 ?kA ?kF ?kK ?k6 ?k7 ?k8 ?k9 ?kB ?_ ?c2 ?c3 ?c4 ?c5; (case kA => exact rfl); (case kF => exact rfl); (case kK => assumption); (case k1 => k_asm); (case k2 => k_asm); (case k3 => k_asm); (case k4 => k_asm); (case k5 => k_asm); (case k6 => k_is); (case k7 => k_is); (case k8 => ktr_room); (case k9 => first | exact BindsTo.of_eq (by kernel_rfl) | exact binds_K (by k_in) rfl (by k_is) rfl rfl rfl); (case c5 => decide); (case kB => exact locs rfl); (case c2 => exact rfl); (case c3 => exact rfl); (case c4 => exact rfl); k_whole; intro g' L' h' FG' F' N' B' X' T'; (try dsimp only); walk_at "f"))
 (replace F' : Fr g' L' h' (kstB (fun _ => none) [(Str.ofString "limit", Value.int (l : Nat) u), (Str.ofString "rounds", Value.int (r : Nat) t)]) := Mine.fr_args F' rfl; dsimp only [kstB] at F'; simp only [List.length_cons, List.length_nil, Nat.zero_add]); (refine Mine.foldA ?_; intro ak)
 walk_at "~"
 unfold Mine.Stop
 (try k_unmd); (try dsimp only)
 with_reducible rename News g' L' _ _ => hN2
 with_reducible rename Fr g' L' _ _ => hF2
 with_reducible rename IsRange _ _ _ _ _ _ _ _ => hR
 refine Mine.for_range (σ := Nat × Tok) (fun c => []) news (fun c => [(Str.ofString "number", .int (c.1 : Nat) c.2)]) [] (fun i c => c.1 = Mine.cubN l i) (1, ?tk0) hF2 hN2 hR (by omega) rfl ?hk ?hp ?turn ?done
 case hk => intro p hp; rcases List.mem_singleton.mp hp with rfl; rfl
 case hp => rfl
 case turn =>
  ((repeat ((with_reducible rename Fr g' L' _ _ => Fx9); clear Fx9)); (repeat ((with_reducible rename News g' L' _ _ => Nx9); clear Nx9)))
  refine Mine.tq2 ?_
  intro N tN i ti u2 I h tk oI hi hoI hP F5 N5
  (try k_unmd); walk_at "f"
  (try dsimp only at hP)
  have hpow := Mine.cub_pow N
  have hexp := Mine.cub_exp l
  have hsz1 : (Builtin.Int.intBits ((N : Nat) : Int) : Int) * 3 ≤ 2 ^ 27 := by
   have h1 : N < 2 ^ 96 := by
    rw [hP]
    exact Nat.lt_of_lt_of_le (Mine.cubN_lt l i) (by rw [show (65536 : Nat) = 2 ^ 16 from rfl, ← Nat.pow_mul]; exact Nat.pow_le_pow_right (by decide) (by omega))
   have := Mine.bits_lt h1
   omega
  have hsz2 : (Builtin.Int.intBits (65536 : Int) : Int) * ((l : Int) + 1) ≤ 2 ^ 27 := by
   rw [show Builtin.Int.intBits (65536 : Int) = 17 from by decide +kernel]
   omega
  have hNlt : N < 65536 ^ (l + 1) := by rw [hP]; exact Mine.cubN_lt l i
  dsimp only [kstB] at F5
  dsimp only [List.nil_append] at N5
  (try k_unmd); walk_at "f"
  walk_at "~"
  unfold Mine.Stop
  (try k_unmd); (try dsimp only)
  rw [hexp]
  have hmod : (65536 * ((N ^ 3 : Nat) : Int) + 1).fmod ((65536 ^ (l + 1) : Nat) : Int) = (((65536 * N ^ 3 + 1) % 65536 ^ (l + 1) : Nat) : Int) := by
   rw [show (65536 * ((N ^ 3 : Nat) : Int) + 1) = ((65536 * N ^ 3 + 1 : Nat) : Int) by omega, Mine.fmod_nat]
  refine mod_int' ?hb ?_
  case hb =>
   have : 65536 ^ (l + 1) ≠ 0 := by simp
   omega
  rw [hmod]
  clear hmod hexp hpow hsz1 hsz2 hNlt
  walk_at "~"
  ((try dsimp only); (try k_unmd); (try k_unfold); (try unfold Mine.LpPost); (try dsimp only); (first | (with_reducible rename Fr g' L' _ _ => hF9) | rename Fr g' L' _ _ => hF9); (first | (with_reducible rename News g' L' _ _ => hN9) | rename News g' L' _ _ => hN9); refine Mine.lp_end ((65536 * N ^ 3 + 1) % 65536 ^ (l + 1), ?z75v) hF9 hN9 ?z75n ?z75i ?z75o ?z75k ?z75r ?z75p; (case z75k => walk_at "h"); (case z75n => first | (k_whole; (walk_at "n"); done) | kst_in); (case z75i => k_mem); (case z75o => first | exact List.forall_mem_nil _ | (intro p hp; rcases List.mem_singleton.mp hp with rfl; first | exact Mine.td_iter (by assumption) | exact Mine.td_isIter (by assumption)) | simp [Mine.isIter, Mine.iterNames, W.listOf]); (case z75r => walk_at "o"); (case z75p => (rw [hP]; rfl)))
 case done =>
  ((repeat ((with_reducible rename Fr g' L' _ _ => Fx9); clear Fx9)); (repeat ((with_reducible rename News g' L' _ _ => Nx9); clear Nx9)))
  refine Mine.tq2 ?_
  intro N tN u2 h tk hP F5 N5
  (try k_unmd); walk_at "f"
  (try dsimp only at hP)
  (refine Mine.nameE (a := Mine.cubN l r) ?_; intro x9 hx99)
  have hx90 : N = x9 := by rw [hP, hx99]
  have hx9 : Builtin.Int.intBits ((x9 : Nat) : Int) ≤ 200 := by
   have h1 : x9 < 2 ^ 96 := by
    rw [hx99]
    exact Nat.lt_of_lt_of_le (Mine.cubN_lt l r) (by rw [show (65536 : Nat) = 2 ^ 16 from rfl, ← Nat.pow_mul]; exact Nat.pow_le_pow_right (by decide) (by omega))
   have := Mine.bits_lt h1
   omega
  dsimp only [kstB] at F5
  dsimp only [List.nil_append] at N5
  (try k_unmd); walk_at "f"
  walk_at "~"
  with_reducible rename News h₀ L _ _ => hN9
  with_reducible rename Fr h₀ L _ _ => hF9
  rw [hnews] at hN9
  refine hret _ [(D9, W.listOf vs9.toArray 0)] tI tD _ _ ⟨_, _, rfl, rfl, by rw [← hx99]; exact hv9⟩ hTI hTD htl9 hF9 (Mine.news_re hN9 (by (walk_at "n")))
end
end
section
namespace Mine
theorem pick_take (xs : List Value) (k : Nat) : (slicePick xs.toArray none (some (k : Int)) none).toList = xs.take k := by
 have e : sliceBounds none (some (k : Int)) none xs.toArray.size = (((0 : Nat) : Int), ((min k xs.length : Nat) : Int), 1) := by
  simp only [sliceBounds, Option.getD_none, show (1 : Int) > 0 by decide, if_true, if_neg (show ¬ ((k : Int) < 0) by omega), List.size_toArray]
  congr 1
  congr 1
  omega
 rw [kmk_pick_nat _ e]
 simp [kmk_take_min]
theorem pick_drop (xs : List Value) (k : Nat) : (slicePick xs.toArray (some (k : Int)) none none).toList = xs.drop k := by
 have e : sliceBounds (some (k : Int)) none none xs.toArray.size = (((min k xs.length : Nat) : Int), ((xs.length : Nat) : Int), 1) := by
  simp only [sliceBounds, Option.getD_none, show (1 : Int) > 0 by decide, if_true, if_neg (show ¬ ((k : Int) < 0) by omega), List.size_toArray]
  congr 1
  omega
 rw [kmk_pick_nat _ e]
 simp only [List.toList_toArray, kmk_drop_min]
 rw [List.take_of_length_le]
 simp only [List.length_drop]
 omega
theorem ints_take : ∀ {vs : List Value} {ns : List Int} (k : Nat), IntsAre vs ns → IntsAre (vs.take k) (ns.take k)
 | _, _, 0, _ => by simpa using IntsAre.nil
 | _, _, _ + 1, .nil => .nil
 | _, _, k + 1, .cons n t r => .cons n t (ints_take k r)
theorem ints_drop : ∀ {vs : List Value} {ns : List Int} (k : Nat), IntsAre vs ns → IntsAre (vs.drop k) (ns.drop k)
 | _, _, 0, h => h
 | _, _, _ + 1, .nil => .nil
 | _, _, k + 1, .cons _ _ r => ints_drop k r
theorem ints_cat {vs us : List Value} {ns ms : List Int} (h : IntsAre vs ns) (g : IntsAre us ms) : IntsAre (vs ++ us) (ns ++ ms) := by
 induction h with
 | nil => exact g
 | cons n t _ ih => exact .cons n t ih
noncomputable def takenL (ns : List Int) : List Int := ns.take 6 ++ ([61, 0, 0, 3, 6, 4] : List Int).drop ns.length
theorem taken_len (ns : List Int) : (takenL ns).length = 6 := by
 unfold takenL
 simp only [List.length_append, List.length_take, List.length_drop, List.length_cons, List.length_nil]
 omega
theorem name_fr {h₀ h : Heap} {L : Addr} {m : Str → Option Value} (_ : Fr h₀ L h m) : ∃ g L', g = h₀ ∧ L' = L := ⟨_, _, rfl, rfl⟩
theorem name_ls {h : Heap} {a : Addr} {its : Array Value} (_ : h.IsList a its) : ∃ a', a' = a := ⟨_, rfl⟩
theorem law_start {h₀ h : Heap} {L : Addr} (N : News h₀ L h [(80, tabObj #[]), (73, tabObj #[])]) : ∃ tI tD news0 news : List (Addr × Obj), news = tI ++ (tD ++ news0) ∧ TabI tI ∧ TabD tD ∧ (∀ q ∈ news0, q.1 ≠ 73 ∧ q.1 ≠ 80) ∧ News h₀ L h news :=
 ⟨[(73, tabObj #[])], [(80, tabObj #[])], [], _, rfl, .inl rfl, .inl rfl, (fun _ h => nomatch h), news_re N (by intro p hp; simp only [List.cons_append, List.nil_append, List.mem_cons, List.not_mem_nil, or_false] at hp ⊢; rcases hp with h | h <;> simp only [h, true_or, or_true])⟩
theorem lit6 {h₀ h : Heap} {L D : Addr} {t1 t2 t3 t4 t5 t6 : Tok} {R : List (Addr × Obj)} (N : News h₀ L h ((D, W.listOf #[.int 61 t1, .int 0 t2, .int 0 t3, .int 3 t4, .int 6 t5, .int 4 t6] 0) :: R)) :
  ∃ ls : List Value, IntsAre ls [61, 0, 0, 3, 6, 4] ∧ News h₀ L h ((D, W.listOf ls.toArray 0) :: R) :=
 ⟨_, .cons 61 t1 (.cons 0 t2 (.cons 0 t3 (.cons 3 t4 (.cons 6 t5 (.cons 4 t6 .nil))))), N⟩
theorem sign_of (v : Int) : ∃ c : Nat, c < 256 ∧ v.fmod 256 = (c : Int) := by
 have h1 : 0 ≤ v.fmod 256 := Int.fmod_nonneg_of_pos v (by decide)
 have h2 : v.fmod 256 < 256 := Int.fmod_lt_of_pos v (by decide)
 exact ⟨(v.fmod 256).toNat, by omega, by omega⟩
theorem name_vs {vs : List Value} {l : List Int} (_ : IntsAre vs l) : ∃ us, us = vs := ⟨_, rfl⟩
theorem law_pre {h₀ h : Heap} {L : Addr} {d b t : Addr × Obj} {os news tI tD n0 : List (Addr × Obj)} (N : News h₀ L h (d :: (os ++ (b :: t :: news)))) (hn : news = tI ++ (tD ++ n0)) : News h₀ L h (([] ++ (tI ++ tD)) ++ (d :: b :: t :: (os ++ n0))) :=
 news_re N (by subst hn; walk_at "n")
theorem law_turn {h₀ h : Heap} {L : Addr} {D C I d b t : Addr × Obj} {os2 os news n0 tI tD n1 : List (Addr × Obj)} (N : News h₀ L h (D :: ((os2 ++ (tI ++ tD)) ++ (C :: I :: d :: b :: t :: (os ++ n0))))) (hn1 : n1 = os2 ++ (os ++ n0)) (hn : news = tI ++ (tD ++ n1)) : News h₀ L h (D :: C :: I :: d :: b :: t :: news) :=
 news_re N fun p hp => by
  subst hn hn1
  simp only [List.mem_append, List.mem_cons] at hp ⊢
  rcases hp with h | h | h | h | h | h | h | h | h | h | h <;> simp only [h, true_or, or_true]
theorem row_is : ∀ i, i < 4 → ∃ row, tallyV[i]? = some row ∧ row ≠ [] ∧ (digitsL (cubN 3 i) 16 ++ [0, 0, 0]).take 4 = row.map fun (d : Nat) => ((d : Nat) : Int) := by
 rw [tallyV_eq]
 have key : ∀ i, i < 4 → (digitsL (cubN 3 i) 16 ++ [0, 0, 0]).take 4 = (([[1, 0, 0, 0], [1, 1, 0, 0], [1, 1, 3, 3], [1, 1, 3, 12]] : List (List Nat)).getD i []).map fun (d : Nat) => ((d : Nat) : Int) := by decide +kernel
 intro i hi
 have h : i < ([[1, 0, 0, 0], [1, 1, 0, 0], [1, 1, 3, 3], [1, 1, 3, 12]] : List (List Nat)).length := hi
 refine ⟨_, List.getElem?_eq_getElem h, ?_, by rw [key i hi, getD_at _ _ _ h]⟩
 obtain rfl | rfl | rfl | rfl : i = 0 ∨ i = 1 ∨ i = 2 ∨ i = 3 := by omega
 all_goals exact List.cons_ne_nil _ _
theorem nest_off {V : List (List Nat)} {us : List Value} {os : List (Addr × Obj)} (h : NestI V us os) {h₀ hh : Heap} {L : Addr} {l tI tD n0 : List (Addr × Obj)} (N : News h₀ L hh l) (hTI : TabI tI) (hTD : TabD tD) (hs : ∀ q ∈ tI ++ (tD ++ n0), q ∈ l) (ho : ∀ p ∈ os, p ∈ l) : ∀ q ∈ os, q.1 ≠ 73 ∧ q.1 ≠ 80 := by
 intro q hq
 obtain ⟨vs, n, _, _, _, e, _⟩ := h.2.1 q hq
 exact off_new N (ho q hq) hTI hTD hs (.inl (by rw [e]; simp [W.listOf]))
theorem nest_apart {V V2 : List (List Nat)} {us us2 : List Value} {os os2 : List (Addr × Obj)} (h : NestI V us os) (h2 : NestI V2 us2 os2) {h₀ hh : Heap} {L D : Addr} {l : List (Addr × Obj)} {k : Nat} (N : News h₀ L hh l) (hD : (D, W.listOf us2.toArray k) ∈ l) (ho : ∀ p ∈ os, p ∈ l) : ∀ q ∈ os, q.1 ≠ D := by
 intro q hq
 obtain ⟨vs, n, a, u, r, e1, e2⟩ := h.2.1 q hq
 refine ne_obj (oa := q.2) N (ho q hq) hD ?_
 rw [e1, e2]; exact nest_ne h2
theorem cp_row {h₀ h : Heap} {L C I D D7 : Addr} {oI oC : Obj} {m mC : Str → Option Value} {d b t : Addr × Obj} {os2 os n0 tI tD n1 news : List (Addr × Obj)} {P : Nat → List Value × List (Addr × Obj) × List (Addr × Obj) × List (Addr × Obj) → Prop} {i : Nat} {s₁ : Shared} {tk : Nat} {us row : List Value} {k : Nat}
  (F : Fr h₀ L h m) (N : News h₀ L h ((D7, W.listOf row.toArray k) :: (D, W.listOf (us.toArray.push (.ref D7)) (us.length + 1)) :: (C, oC) :: (I, oI) :: d :: b :: t :: news)) (hn1 : n1 = os2 ++ (os ++ n0)) (hn : news = tI ++ (tD ++ n1)) (hC : NsO oC mC) (hTI : TabI tI) (hTD : TabD tD) (ho : ∀ p ∈ os2, okOwn p.2 = true) (hp : P i (us ++ [.ref D7], (D7, W.listOf row.toArray k) :: os2, tI, tD)) :
  CpEnd h₀ L C I oI (fun c => (D, W.listOf c.1.toArray c.1.length) :: (c.2.1 ++ (c.2.2.1 ++ c.2.2.2))) (d :: b :: t :: (os ++ n0)) m P i s₁ { s₁ with heap := h, toks := tk } := by
 refine cp_app (items := fun c => c.1) (nn := fun c => c.1.length) (Own := fun c => c.2.1 ++ (c.2.2.1 ++ c.2.2.2)) (us := us) (v := .ref D7) (fun _ => (us ++ [.ref D7], (D7, W.listOf row.toArray k) :: os2, tI, tD)) F N hC (List.mem_cons_of_mem _ (List.mem_cons_self ..)) rfl (by simp) ?_ (List.mem_cons_of_mem _ (List.mem_cons_of_mem _ (List.mem_cons_of_mem _ (List.mem_cons_self ..)))) (List.mem_cons_of_mem _ (List.mem_cons_of_mem _ (List.mem_cons_self ..))) ?_ hp
 ·intro p hp
  subst hn hn1
  simp only [List.cons_append, List.mem_append, List.mem_cons] at hp ⊢
  rcases hp with h | ((h | h | h) | h | h | h | h | h) <;> simp only [h, true_or, or_true]
 ·exact List.forall_mem_append.mpr ⟨List.forall_mem_cons.mpr ⟨rfl, ho⟩, List.forall_mem_append.mpr ⟨hTI.own, hTD.own⟩⟩
theorem nest_reads_aux {h : Heap} {os : List (Addr × Obj)} (ho : ∀ p ∈ os, h.get? p.1 = some p.2) : ∀ (V : List (List Nat)) (us : List Value), us.length = V.length →
  (∀ (i : Nat) (row : List Nat), V[i]? = some row → ∃ (A : Addr) (vs : List Value) (n : Nat), us[i]? = some (.ref A) ∧ (A, W.listOf vs.toArray n) ∈ os ∧ IntsAre vs (row.map fun (d : Nat) => ((d : Nat) : Int))) →
  ∃ as, ReadsAll h us (V.map fun row => PyData.list ((row.map fun (d : Nat) => ((d : Nat) : Int)).map PyData.int)) as
 | [], [], _, _ => ⟨[], .nil⟩
 | [], _ :: _, h, _ => by simp at h
 | _ :: _, [], h, _ => by simp at h
 | row :: V, u :: us, hl, hr => by
  obtain ⟨as, ih⟩ := nest_reads_aux ho V us (by simpa using hl) fun i row' hi => by simpa using hr (i + 1) row' (by simpa using hi)
  obtain ⟨A, vs, n, e1, e2, e3⟩ := hr 0 row rfl
  have e1 : u = .ref A := by simpa using e1
  subst e1
  exact ⟨_, .cons (reads_of_ints ⟨_, ho _ e2, rfl, n, rfl⟩ e3) ih⟩
theorem nest_reads {h₀ h : Heap} {L D : Addr} {l os : List (Addr × Obj)} {V : List (List Nat)} {us : List Value} {k : Nat} (N : News h₀ L h l) (hD : (D, W.listOf us.toArray k) ∈ l) (ho : ∀ p ∈ os, p ∈ l) (hn : NestI V us os) :
  ∃ as, Reads h (.ref D) (.list (V.map fun row => PyData.list ((row.map fun (d : Nat) => ((d : Nat) : Int)).map PyData.int))) as := by
 obtain ⟨as, hr⟩ := nest_reads_aux (fun p hp => (N p (ho p hp)).1) V us hn.1 hn.2.2
 exact ⟨_, Reads.list (N _ hD).1 rfl rfl (by simpa using hr)⟩
section
variable {prog : Program} {w : World} {A : Around} {E : Value → Shared → Prop} {s : Shared} {Q : Value → Shared → Prop}
theorem ne_nests {a b : Addr} {as bs : List Addr} (ra : Reads s.heap (.ref a) (.list (tallyV.map fun row => PyData.list ((row.map fun (d : Nat) => ((d : Nat) : Int)).map PyData.int))) as) (rb : Reads s.heap (.ref b) (.list (tallyV.map fun row => PyData.list ((row.map fun (d : Nat) => ((d : Nat) : Int)).map PyData.int))) bs)
  (hu : A.units + 64 < cLine) (h : Q (.bool false) s) : wpAny (model prog w) A (compareOp .NotEq (.ref a) (.ref b)) Q E s := by
 rw [tallyV_eq] at ra rb
 have hsh : PySem.SeqAt.shaped (.list (([[1, 0, 0, 0], [1, 1, 0, 0], [1, 1, 3, 3], [1, 1, 3, 12]] : List (List Nat)).map fun row => PyData.list ((row.map fun (d : Nat) => ((d : Nat) : Int)).map PyData.int))) = true := by decide +kernel
 have heq : PyData.eqv (.list (([[1, 0, 0, 0], [1, 1, 0, 0], [1, 1, 3, 3], [1, 1, 3, 12]] : List (List Nat)).map fun row => PyData.list ((row.map fun (d : Nat) => ((d : Nat) : Int)).map PyData.int))) (.list (([[1, 0, 0, 0], [1, 1, 0, 0], [1, 1, 3, 3], [1, 1, 3, 12]] : List (List Nat)).map fun row => PyData.list ((row.map fun (d : Nat) => ((d : Nat) : Int)).map PyData.int))) = true := by decide +kernel
 refine ne_dataH ra rb hsh hsh hu ?_
 rw [heq]
 exact h
end
theorem lit3 {h₀ h : Heap} {L D : Addr} {t1 t2 t3 : Tok} {R : List (Addr × Obj)} (N : News h₀ L h ((D, W.listOf #[.int 0 t1, .int 0 t2, .int 0 t3] 0) :: R)) :
  ∃ ls : List Value, IntsAre ls [0, 0, 0] ∧ News h₀ L h ((D, W.listOf ls.toArray 0) :: R) :=
 ⟨_, .cons 0 t1 (.cons 0 t2 (.cons 0 t3 .nil)), N⟩
theorem digs_small {i : Nat} {vs : List Value} (hi : i ≤ 5) (h : IntsAre vs (digitsL (cubN 3 i) 16)) : vs.length ≤ 1000 := by
 have key : ∀ i, i < 6 → (digitsL (cubN 3 i) 16).length ≤ 1000 := by decide +kernel
 rw [h.length]; exact key i (by omega)
theorem law_post {h₀ h : Heap} {L : Addr} {D d b t : Addr × Obj} {os2 os news n0 tI tD : List (Addr × Obj)} (N : News h₀ L h (D :: ((os2 ++ (tI ++ tD)) ++ (d :: b :: t :: (os ++ n0))))) (hn : news = tI ++ (tD ++ n0)) : News h₀ L h (b :: t :: news) :=
 news_re N (by subst hn; walk_at "n")
theorem put_t (w : World) (c : Nat) (hc : c < 256) (t : Tree) (i : Nat) (hi : i < 1 + 2 * size t) (ht : size t ≤ 5) (u v : Tok) :
  Ctr w 120 10 100 [.str (mk (flat c t)) u, .int i v] (fun _ => True) (fun r tl => tl = [] ∧ ∃ k, r = .str (mk (flat c (putT t i))) k) := by
 have hl := flat_len t c
 have h := put_c w (flat c t) i (by omega) (by omega) (flat_lt t c hc) u v
 rw [put_flat t c i hc hi] at h
 exact h
theorem ints_get : ∀ {vs : List Value} {l : List Int}, IntsAre vs l → ∀ {i : Nat} {v : Value}, vs[i]? = some v → ∃ n t, v = .int n t
 | _, _, .nil, i, v, h => by simp at h
 | _, _, .cons n t r, 0, v, h => ⟨n, t, by simpa using h.symm⟩
 | _, _, .cons n t r, i + 1, v, h => ints_get r (by simpa using h)
theorem spot_at (n : Int) (k : Nat) (hk : 0 < k) : ∃ i : Nat, i < k ∧ n.fmod (k : Int) = (i : Int) := by
 have h1 : 0 ≤ n.fmod (k : Int) := Int.fmod_nonneg_of_pos n (by omega)
 have h2 : n.fmod (k : Int) < (k : Int) := Int.fmod_lt_of_pos n (by omega)
 exact ⟨(n.fmod (k : Int)).toNat, by omega, by omega⟩
section
variable {prog : Program} {w : World} {A : Around} {E : Value → Shared → Prop} {s : Shared} {env : Env} {h₀ : Heap} {L : Addr} {m : Str → Option Value} {news : List (Addr × Obj)}
theorem assign_two {Q : Unit → Shared → Prop} {a b : Str} {pa pb tp : Pos} {kk : Nat} {T : Addr} {x y : Value} (F : Fr h₀ L s.heap m) (N : News h₀ L s.heap news) (hT : (T, ({ cls := .type "tuple", data := .seq #[x, y] } : Obj)) ∈ news) (hLe : env.locals = L) (hh : A.handled = none)
  (ha : env.kindOf a = some .local) (hb : env.kindOf b = some .local) (hp : (env.scope.kind == .class || (env.scope.kind == .module && env.locals != env.globals)) = false)
  (h : ∀ h₂ tk₂, Fr h₀ L h₂ (fun q => if q = b then some y else if q = a then some x else m q) → News h₀ L h₂ news → Q () { s with heap := h₂, toks := tk₂ }) :
  wpAny (model prog w) A (assign (.Tuple [.Name a pa, .Name b pb] kk tp) env (.ref T)) Q E s := by
 subst hLe
 have ht : s.heap.IsTuple T #[x, y] := ⟨_, (N _ hT).1, rfl, _, rfl⟩
 have hL0 : h₀.get? env.locals = none := Heap.get?_none_of_le F.above
 refine wpAny_assign_Tuple hh ht rfl rfl fun h₁ he₁ => ?_
 have hL : env.locals ≠ s.heap.objs.size := Nat.ne_of_lt F.ns.lt
 have hn₁ : h₁.Ns env.locals m := F.ns.at' fun o e => he₁ _ o hL e
 have up₁ : ∀ c o, s.heap.get? c = some o → h₁.get? c = some o := fun c o e => he₁ c o (Nat.ne_of_lt (Heap.lt_size e)) e
 show wpAny _ _ (assignInOrder [assign (.Name a pa) env, assign (.Name b pb) env] [x, y]) _ _ _
 refine assignInOrder_cons ?_
 refine wpAny_assign_Name (wpAny_storeName_local ha hn₁ (fun h₂ hn₂ hs₂ => ?_) hp)
 refine assignInOrder_cons ?_
 refine wpAny_assign_Name (wpAny_storeName_local hb hn₂ (fun h₃ hn₃ hs₃ => ?_) hp)
 refine assignInOrder_nil ?_
 have up : ∀ c o, c ≠ env.locals → s.heap.get? c = some o → h₃.get? c = some o := fun c o hc e => (hs₃.2 c hc).trans ((hs₂.2 c hc).trans (up₁ c o e))
 exact h h₃ _ ⟨hn₃, fun b o e => up b o (fun q => by rw [q, hL0] at e; cases e) (F.keep b o e), F.above⟩ fun p hp => ⟨up _ _ (N p hp).2.1 (N p hp).1, (N p hp).2⟩
end
section
open PyProof.V
variable {prog : Program} {w : World} {A : Around} {E : Value → Shared → Prop} {s : Shared} {h₀ : Heap} {L : Addr} {Q : Value → Shared → Prop}
theorem ne_one {a b : Addr} {oa ob : Obj} {l : List (Addr × Obj)} {x : Str} {n : Int} (N : News h₀ L s.heap l) (pa : (a, oa) ∈ l) (pb : (b, ob) ∈ l) (la : (a == sysModules) = false) (lb : (b == sysModules) = false) (da : TD prog w oa [(x, n)]) (db : TD prog w ob [(x, n)]) (hu : A.units < cLine) (h : Q (.bool false) s) :
  wpAny (model prog w) A (compareOp .NotEq (.ref a) (.ref b)) Q E s := by
 obtain ⟨ka, da, fa⟩ := da
 obtain ⟨kb, db, fb⟩ := db
 have hl : PySem.Spec.lookup (PyData.str x) (kdpD [(x, n)]) = some (PyData.int n) := by
  simp [kdpD, PySem.Spec.lookup, same_str]
 refine kne_tabs (knd := PySem.strKind _ _) (enc := PyData.str) same_str (TabAt.ofObj la (N _ pa).1 da fa) (TabAt.ofObj lb (N _ pb).1 db fb) rfl hu (.hit hl .nil) ?_
 simpa [PyData.eqv] using h
end
end Mine
end
section
namespace Mine
theorem argX (c : List Nat) (i : Nat) (h : i < c.length) : (List.map (fun (d : Nat) => (d : Int)) c).getD ((i : Int)).toNat 0 * 3 * (3 * (i : Int) + 1) * (3 * (i : Int) + 2) = ((cntX c i : Nat) : Int) := by
 unfold cntX
 rw [Int.toNat_natCast]
 simp [List.getD, List.getElem?_eq_getElem h]
end Mine
section
set_option maxHeartbeats 8000000 in
theorem Mine.counts_c (w : World) (n : Nat) (hn : n ≤ 5) (t : Tok) :
  Mine.CtrT w 106 420 6400 [.int (n : Nat) t] (fun r tl => ∃ D vs, r = .ref D ∧ tl = [(D, W.listOf vs.toArray (vs.length - 1))] ∧ IntsAre vs ((Mine.cnts n).map fun (d : Nat) => ((d : Nat) : Int))) := by
 k_with_none
 k_with "storeName" => (k_here; (with_reducible show wpAny _ _ (storeName _ _ _) _ _ _); k_dflt (refine' Mine.storeF ?Fw75 ?Nw75 ?_ ?aw75 ?bw75; (case Fw75 => k_asm); (case Nw75 => k_asm); (case aw75 => exact Eq.refl ScopeKind.function); (case bw75 => exact Eq.refl (some NameKind.local)); k_whole; intro h7s m7s F7s N7s; (try k_sweep)))
 k_with "eval Name" => (k_here; (with_reducible show wpAny _ _ (eval (Expr.Name _ _) _) _ _ _); k_dflt (refine' nameX_L ?Fw76 ?vw76 ?_ ?aw76 ?bw76; (case Fw76 => k_asm); (case aw76 => exact Eq.refl ScopeKind.function); (case bw76 => exact Eq.refl (some NameKind.local)); (case vw76 => exact Eq.refl (some _)); k_whole))
 k_with "call builtin:list.append" => (k_here; (with_reducible show wpAny _ _ (call (Value.builtin _) [Value.ref _, _]) _ _ _); k_dflt (refine' append_K ?k1w77 ?k2w77 ?k3w77 ?_ ?zw77; (case k1w77 => k_asm); (case k2w77 => k_asm); (case k3w77 => (first | (refine' Upd.head ?kh3w77; (case kh3w77 => (repeat' (first | (with_reducible assumption) | exact List.forall_mem_nil _ | (refine List.forall_mem_cons.mpr ⟨(by (first | (with_reducible assumption) | exact Nat.ne_of_lt (by with_reducible assumption) | exact Nat.ne_of_gt (by with_reducible assumption) | exact Ne.symm (by with_reducible assumption) | k_ne)), ?_⟩))))) | (refine' Upd.tail ?ka3w77 ?kb3w77; (case ka3w77 => (first | (with_reducible assumption) | exact Nat.ne_of_lt (by with_reducible assumption) | exact Nat.ne_of_gt (by with_reducible assumption) | exact Ne.symm (by with_reducible assumption) | k_ne)); (case kb3w77 => (first | (refine' Upd.head ?kh2w77; (case kh2w77 => (repeat' (first | (with_reducible assumption) | exact List.forall_mem_nil _ | (refine List.forall_mem_cons.mpr ⟨(by (first | (with_reducible assumption) | exact Nat.ne_of_lt (by with_reducible assumption) | exact Nat.ne_of_gt (by with_reducible assumption) | exact Ne.symm (by with_reducible assumption) | k_ne)), ?_⟩))))) | (refine' Upd.tail ?ka2w77 ?kb2w77; (case ka2w77 => (first | (with_reducible assumption) | exact Nat.ne_of_lt (by with_reducible assumption) | exact Nat.ne_of_gt (by with_reducible assumption) | exact Ne.symm (by with_reducible assumption) | k_ne)); (case kb2w77 => (first | (refine' Upd.head ?kh1w77; (case kh1w77 => (repeat' (first | (with_reducible assumption) | exact List.forall_mem_nil _ | (refine List.forall_mem_cons.mpr ⟨(by (first | (with_reducible assumption) | exact Nat.ne_of_lt (by with_reducible assumption) | exact Nat.ne_of_gt (by with_reducible assumption) | exact Ne.symm (by with_reducible assumption) | k_ne)), ?_⟩))))) | (refine' Upd.tail ?ka1w77 ?kb1w77; (case ka1w77 => (first | (with_reducible assumption) | exact Nat.ne_of_lt (by with_reducible assumption) | exact Nat.ne_of_gt (by with_reducible assumption) | exact Ne.symm (by with_reducible assumption) | k_ne)); (case kb1w77 => (fail))))))))))); (case zw77 => first | size_fits | (refine Nat.le_trans (m := 100000) (by simp only [List.size_toArray]; omega) (by decide))); k_whole); intro h' F' N')
 k_with "call ref" => (k_here; (with_reducible show wpAny _ _ (call (Value.ref 99) _) _ _ _); (first | (with_reducible rename News g' L' _ _ => hN9) | rename News g' L' _ _ => hN9); rw [hnews] at hN9; (rw [hargX, hargY]); walk_at "f"; k_dflt ((first | (refine' Mine.CtrL.use (Mine.idiv_c w x9 y9 hy9 hx9 hy8 _ _) [] ?kBw78 ?kFw78 ?kXw78 hN9 hTI hTD hoff ?kxw78 ?kpw78 ?kTw78 ?kKw78 ?kdw78 ?kuw78 ?_) | (refine' Mine.CtrL.use (Mine.idiv_c w x9 y9 hy9 hx9 hy8 _ _) [_] ?kBw78 ?kFw78 ?kXw78 hN9 hTI hTD hoff ?kxw78 ?kpw78 ?kTw78 ?kKw78 ?kdw78 ?kuw78 ?_) | (refine' Mine.CtrL.use (Mine.idiv_c w x9 y9 hy9 hx9 hy8 _ _) [_, _] ?kBw78 ?kFw78 ?kXw78 hN9 hTI hTD hoff ?kxw78 ?kpw78 ?kTw78 ?kKw78 ?kdw78 ?kuw78 ?_) | (refine' Mine.CtrL.use (Mine.idiv_c w x9 y9 hy9 hx9 hy8 _ _) [_, _, _] ?kBw78 ?kFw78 ?kXw78 hN9 hTI hTD hoff ?kxw78 ?kpw78 ?kTw78 ?kKw78 ?kdw78 ?kuw78 ?_) | (refine' Mine.CtrL.use (Mine.idiv_c w x9 y9 hy9 hx9 hy8 _ _) [_, _, _, _] ?kBw78 ?kFw78 ?kXw78 hN9 hTI hTD hoff ?kxw78 ?kpw78 ?kTw78 ?kKw78 ?kdw78 ?kuw78 ?_) | (refine' Mine.CtrL.use (Mine.idiv_c w x9 y9 hy9 hx9 hy8 _ _) [_, _, _, _, _] ?kBw78 ?kFw78 ?kXw78 hN9 hTI hTD hoff ?kxw78 ?kpw78 ?kTw78 ?kKw78 ?kdw78 ?kuw78 ?_)); (case kBw78 => k_asm); (case kFw78 => k_asm); (case kXw78 => k_asm); (case kxw78 => (repeat' (first | exact List.forall_mem_nil _ | (refine List.forall_mem_cons.mpr ⟨by first | exact Or.inl (by intro h; cases h) | exact Mine.offT_iter (by with_reducible assumption) | assumption, ?_⟩)))); (case kpw78 => trivial); (case kTw78 => k_asm); (case kKw78 => first | exact rfl | assumption); (case kdw78 => first | exact Mine.oDp (by with_reducible assumption) (by exact rfl) | exact Mine.oDq (by with_reducible assumption) (by exact rfl) | omega | ktr_room); (case kuw78 => first | exact Mine.oDp (by with_reducible assumption) (by exact rfl) | exact Mine.oDq (by with_reducible assumption) (by exact rfl) | omega | ktr_units);  k_whole); clear hN9; clear hnews; intro v9 tl9 tI tD h9 tk9 hp9 hTI hTD htl9 F9 N9; (refine Mine.nameE (a := tI ++ (tD ++ news0)) ?_; intro news hnews); rw [← hnews] at N9; (try dsimp only at hp9); ((refine Mine.foldG ?_; intro gk257; (first | refine Mine.exE hp9 ?_ | refine Mine.anE hp9 ?_); intro T9 zo254; clear hp9; (first | refine Mine.exE zo254 ?_ | refine Mine.anE zo254 ?_); intro u1 zo255; clear zo254; (first | refine Mine.exE zo255 ?_ | refine Mine.anE zo255 ?_); intro u2 zo256; clear zo255; (first | refine Mine.exE zo256 ?_ | refine Mine.anE zo256 ?_); intro e1 e2; clear zo256; unfold gk257; clear gk257); cases e1; cases e2); (try dsimp only [List.nil_append, List.cons_append] at N9); (try dsimp only); walk_at "f")
 k_with "pyIter ref" => (k_here; refine Mine.stop ?_)
 have hn6 : n ≤ 1000 := by omega
 have hn5 : Mine.Stop (n ≤ 5) := hn
 clear hn
 ((try unfold Mine.CtrT); unfold Mine.CtrL; k_fill; intro p loose mean mg mb dp un gd cn cs a ccd cl outer A₀ base h₀ L m tI tD news0 s Q E B F X N hTI hTD hoff hpre T hk hd hu hret; (refine Mine.nameE (a := tI ++ (tD ++ news0)) ?_; intro news hnews); rw [← hnews] at N; refine wpAny_call ?_; k_dflt (refine' code_def (binds := [(Str.ofString "limit", Value.int (n : Nat) t)]) ?k1 ?k2 ?k3 ?k4 ?k5 ?kA ?kF ?kK ?k6 ?k7 ?k8 ?k9 ?kB ?_ ?c2 ?c3 ?c4 ?c5; (case kA => exact rfl); (case kF => exact rfl); (case kK => assumption); (case k1 => k_asm); (case k2 => k_asm); (case k3 => k_asm); (case k4 => k_asm); (case k5 => k_asm); (case k6 => k_is); (case k7 => k_is); (case k8 => ktr_room); (case k9 => first | exact BindsTo.of_eq (by kernel_rfl) | exact binds_K (by k_in) rfl (by k_is) rfl rfl rfl); (case c5 => decide); (case kB => exact locs rfl); (case c2 => exact rfl); (case c3 => exact rfl); (case c4 => exact rfl); k_whole; intro g' L' h' FG' F' N' B' X' T'; (try dsimp only); walk_at "f"))
 (replace F' : Fr g' L' h' (kstB (fun _ => none) [(Str.ofString "limit", Value.int (n : Nat) t)]) := Mine.fr_args F' rfl; dsimp only [kstB] at F'; simp only [List.length_cons, List.length_nil, Nat.zero_add]); (refine Mine.foldA ?_; intro ak)
 walk_at "~"
 unfold Mine.Stop
 (try k_unmd); (try dsimp only)
 with_reducible rename News g' L' _ _ => hN2
 ((first | refine Mine.exE (Mine.name_1 hN2) ?_ | refine Mine.anE (Mine.name_1 hN2) ?_); intro LQ e)
 subst e
 with_reducible rename Fr g' L' _ _ => hF2
 with_reducible rename IsRange _ _ _ _ _ _ _ _ => hR
 with_reducible rename ∀ p, p ∈ news → p.1 < _ => hlt
 have hoq3 : ∀ p ∈ news, p.1 ≠ LQ := fun p hp => Nat.ne_of_lt (hlt p hp)
 have hoq0 : ∀ p ∈ news0, p.1 ≠ LQ := fun p hp => hoq3 p (by rw [hnews]; walk_at "m")
 clear hoq3
 have hN3 : ∃ t1, News g' L' _ ((LQ, W.listOf #[Value.int 1 t1] 0) :: news) := ⟨_, hN2⟩
 clear hN2
 ((first | refine Mine.exE hN3 ?_ | refine Mine.anE hN3 ?_); intro t1 hN2; clear hN3)
 refine Mine.for_range (σ := List Value × List (Addr × Obj) × List (Addr × Obj)) (fun c => (LQ, W.listOf c.1.toArray (c.1.length - 1)) :: (c.2.1 ++ c.2.2)) news0 (fun c => []) [Str.ofString "told", Str.ofString "rest"] (fun i c => Mine.TabI c.2.1 ∧ Mine.TabD c.2.2 ∧ IntsAre c.1 ((Mine.cnts i).map fun (d : Nat) => ((d : Nat) : Int))) ([Value.int 1 t1], tI, tD) hF2 ?hN hR (by omega) rfl ?hk ?hp ?turn ?done
 case hN =>
  rw [hnews] at hN2
  exact Mine.news_re hN2 (by walk_at "n")
 case hk => intro p hp; cases hp
 case hp => exact ⟨hTI, hTD, .cons _ _ .nil⟩
 case turn =>
  ((repeat ((with_reducible rename Fr g' L' _ _ => Fx9); clear Fx9)); (repeat ((with_reducible rename News g' L' _ _ => Nx9); clear Nx9)))
  refine Mine.tq3 ?_
  intro vs tI tD i ti u2 I h tk oI hi hoI hP F5 N5
  (try k_unmd); walk_at "f"
  ((first | refine Mine.exE hP ?_ | refine Mine.anE hP ?_); intro hTI zo258; clear hP; (first | refine Mine.exE zo258 ?_ | refine Mine.anE zo258 ?_); intro hTD hP3; clear zo258)
  (try dsimp only at hTI hTD hP3)
  unfold Mine.Stop at hn5
  have hlen : vs.length = i + 1 := by rw [hP3.length, List.length_map, Mine.cnts_len]
  have hsm := Mine.cnts_small i (by omega)
  (refine Mine.nameE (a := Mine.cntX (Mine.cnts i) i) ?_; intro x9 hx90)
  (refine Mine.nameE (a := Mine.cntY i) ?_; intro y9 hy90)
  have hargX : (List.map (fun (d : Nat) => (d : Int)) (Mine.cnts i)).getD ((i : Int)).toNat 0 * 3 * (3 * (i : Int) + 1) * (3 * (i : Int) + 2) = (x9 : Int) := by
   rw [hx90]; exact Mine.argX _ _ (by rw [Mine.cnts_len]; omega)
  have hargY : (2 * (i : Int) + 2) * (2 * (i : Int) + 3) = (y9 : Int) := by rw [hy90]; simp [Mine.cntY]
  have hy9 : 0 < y9 := by rw [hy90]; exact Nat.mul_pos (by omega) (by omega)
  have hx9 : Builtin.Int.intBits (x9 : Int) ≤ 200 := by rw [hx90]; exact Nat.le_trans (Mine.bits_lt hsm) (by decide)
  have hy8 : Builtin.Int.intBits (y9 : Int) ≤ 200 := by
   rw [hy90]
   have : Mine.cntY i ≤ 12 * 13 := Nat.mul_le_mul (by omega) (by omega)
   exact Nat.le_trans (Mine.bits_lt (m := 8) (by omega)) (by decide)
  (refine Mine.nameE (a := tI ++ (tD ++ news0)) ?_; intro news hnews)
  have N6 := Mine.news_re (l' := (LQ, W.listOf vs.toArray (vs.length - 1)) :: (I, oI) :: news) N5 (by rw [hnews]; (walk_at "n"))
  clear N5
  dsimp only [kstB] at F5
  (try k_unmd); walk_at "f"
  walk_at "~"
  ·have hz : Mine.cnts (i + 1) = Mine.cnts i ++ [x9 / y9] := by
    with_reducible rename _ = (0 : Int) => hz
    show Mine.cnts i ++ [_] = _
    rw [← hx90, ← hy90, if_pos (by omega)]
   with_reducible rename News g' L' _ _ => hN5
   with_reducible rename Fr g' L' _ _ => hF5
   have hoq3 := Mine.news_apart hN5 hnews hTI hTD (by intro q hq; walk_at "m") (List.mem_cons_of_mem _ (List.mem_cons_self ..)) (by intro ws; simp [W.listOf]) hoq0
   have hIq : I ≠ LQ := Mine.iter_ne2 hN5 (by walk_at "m") (List.mem_cons_of_mem _ (List.mem_cons_self ..)) hoI (by simp [Mine.isIter, Mine.iterNames, W.listOf])
   refine Mine.app_drop hF5 hN5 (List.forall_mem_cons.mpr ⟨hIq, hoq3⟩) ?_ (by simp; omega)
   clear hN5 hF5
   intro h6 F6 N6
   walk_at "~"
   rw [hnews, Mine.app_obj2 _ (by omega)] at N6
   ((try dsimp only); (try k_unmd); (try k_unfold); (try unfold Mine.LpPost); (try dsimp only); (first | (with_reducible rename Fr g' L' _ _ => hF9) | rename Fr g' L' _ _ => hF9); (first | (with_reducible rename News g' L' _ _ => hN9) | rename News g' L' _ _ => hN9); refine Mine.lp_end (vs ++ [Value.int ((x9 / y9 : Nat) : Int) u1], tI, tD) hF9 hN9 ?z82n ?z82i ?z82o ?z82k ?z82r ?z82p; (case z82k => walk_at "h"); (case z82n => (try dsimp only); (walk_at "n")); (case z82i => k_mem); (case z82o => exact List.forall_mem_cons.mpr ⟨Mine.isIter_cls rfl (by decide), List.forall_mem_append.mpr ⟨hTI.iter, hTD.iter⟩⟩); (case z82r => walk_at "o"); (case z82p => exact ⟨hTI, hTD, by rw [hz]; exact Mine.ints_snoc hP3 _ _⟩))
  ·have hz : Mine.cnts (i + 1) = Mine.cnts i ++ [0] := by
    with_reducible rename _ ≠ (0 : Int) => hz
    show Mine.cnts i ++ [_] = _
    rw [← hx90, ← hy90, if_neg (by omega)]
   with_reducible rename News g' L' _ _ => hN5
   with_reducible rename Fr g' L' _ _ => hF5
   have hoq3 := Mine.news_apart hN5 hnews hTI hTD (by intro q hq; walk_at "m") (List.mem_cons_of_mem _ (List.mem_cons_self ..)) (by intro ws; simp [W.listOf]) hoq0
   have hIq : I ≠ LQ := Mine.iter_ne2 hN5 (by walk_at "m") (List.mem_cons_of_mem _ (List.mem_cons_self ..)) hoI (by simp [Mine.isIter, Mine.iterNames, W.listOf])
   refine Mine.app_drop hF5 hN5 (List.forall_mem_cons.mpr ⟨hIq, hoq3⟩) ?_ (by simp; omega)
   clear hN5 hF5
   intro h6 F6 N6
   walk_at "~"
   rw [hnews, Mine.app_obj2 _ (by omega)] at N6
   ((try dsimp only); (try k_unmd); (try k_unfold); (try unfold Mine.LpPost); (try dsimp only); (first | (with_reducible rename Fr g' L' _ _ => hF9) | rename Fr g' L' _ _ => hF9); (first | (with_reducible rename News g' L' _ _ => hN9) | rename News g' L' _ _ => hN9); refine Mine.lp_end (vs ++ [Value.int 0 ?v9], tI, tD) hF9 hN9 ?z83n ?z83i ?z83o ?z83k ?z83r ?z83p; (case z83k => walk_at "h"); (case z83n => (try dsimp only); (walk_at "n")); (case z83i => k_mem); (case z83o => exact List.forall_mem_cons.mpr ⟨Mine.isIter_cls rfl (by decide), List.forall_mem_append.mpr ⟨hTI.iter, hTD.iter⟩⟩); (case z83r => walk_at "o"); (case z83p => exact ⟨hTI, hTD, by rw [hz]; exact Mine.ints_snoc hP3 0 _⟩))
 case done =>
  ((repeat ((with_reducible rename Fr g' L' _ _ => Fx9); clear Fx9)); (repeat ((with_reducible rename News g' L' _ _ => Nx9); clear Nx9)))
  refine Mine.tq3 ?_
  intro vs tI tD u2 h tk hP F5 N5
  (try k_unmd); walk_at "f"
  ((first | refine Mine.exE hP ?_ | refine Mine.anE hP ?_); intro hTI zo259; clear hP; (first | refine Mine.exE zo259 ?_ | refine Mine.anE zo259 ?_); intro hTD hP3; clear zo259)
  (try dsimp only at hTI hTD hP3 N5)
  have N6 := Mine.news_re (l' := (LQ, W.listOf vs.toArray (vs.length - 1)) :: (tI ++ (tD ++ news0))) N5 (by (walk_at "n"))
  clear N5
  dsimp only [kstB] at F5
  (try k_unmd); walk_at "f"
  walk_at "~"
  with_reducible rename News h₀ L _ _ => hN9
  with_reducible rename Fr h₀ L _ _ => hF9
  refine hret _ [(LQ, W.listOf vs.toArray (vs.length - 1))] tI tD _ _ ⟨_, _, rfl, rfl, hP3⟩ hTI hTD (List.forall_mem_cons.mpr ⟨Mine.off_new (n0 := news0) hN9 (List.mem_cons_self ..) hTI hTD (by (walk_at "n")) (.inl (by simp [W.listOf])), List.forall_mem_nil _⟩) hF9 (Mine.news_re hN9 (by (walk_at "n")))
end
end
section
namespace Mine
section
variable {prog : Program} {w : World} {A : Around} {E : Value → Shared → Prop} {s : Shared} {env : Env} {h₀ : Heap} {L : Addr} {x : Str}
theorem comp_list1 {σ : Type} {elt iter : Expr} {px : Pos} {scope : Scope} {cl : List (Str × Addr)} {pos : Pos} {Q : Value → Shared → Prop} {l : Addr} {its : Array Value} {nl : Nat} {tail : List (Addr × Obj)} {m : Str → Option Value}
  (items : σ → List Value) (nn : σ → Nat) (Own : σ → List (Addr × Obj)) (P : Nat → σ → Prop) (c₀ : σ)
  (F : Fr h₀ L s.heap m) (N : News h₀ L s.heap (Own c₀ ++ ((l, listOf its nl) :: tail))) (hh : A.handled = none) (hc1 : items c₀ = []) (hc2 : nn c₀ = 0) (hP : P 0 c₀)
  (hcell : ∀ y ∈ scope.names, y.2 ≠ .cell) (hkind : scope.kind = .function) (hx : scope.names.lookup x = some .local)
  (turn : ∀ (D C I : Addr) (c : σ) i v h tk oI oC (mC : Str → Option Value), D < C → (∀ p ∈ (I, oI) :: (l, listOf its nl) :: tail, p.1 < D) → its[i]? = some v → isIter oI = true → P i c → NsO oC (fun y => if y = x then some v else mC y) → Fr h₀ L h m → News h₀ L h ((D, listOf (items c).toArray (nn c)) :: (Own c ++ ((C, oC) :: (I, oI) :: (l, listOf its nl) :: tail))) →
   wpAny (model prog w) A (eval elt (compEnvC scope cl C env)) (fun y s₃ => wpAny (model prog w) A (call (.builtin "list.append") [.ref D, y]) (fun _ s₄ => CpEnd h₀ L C I oI (fun c => (D, listOf (items c).toArray (nn c)) :: Own c) ((l, listOf its nl) :: tail) m P (i + 1) { s with heap := h, toks := tk } s₄) (fun _ _ => False) s₃) (fun _ _ => False) { s with heap := h, toks := tk })
  (done : ∀ (D : Addr) (c : σ) h tk, P its.size c → Fr h₀ L h m → News h₀ L h ((D, listOf (items c).toArray (nn c)) :: (Own c ++ ((l, listOf its nl) :: tail))) → Q (.ref D) { s with heap := h, toks := tk }) :
  wpAny (model prog w) A (pyIter (.ref l)) (fun it s₂ => CompGo prog w A env elt iter x px scope cl pos Q E it s₂) E s :=
 gen_list1 (rest := restE elt) (p := iter.pos) items nn Own P c₀ (fun it acc cenv => hT1 elt (.Name x px) iter scope pos it acc cenv) F N hh hc1 hc2 hP hcell hkind hx (fun D C I c i v h tk oI oC mC a1 a2 a3 a4 a5 a6 a7 a8 => rest_E (turn D C I c i v h tk oI oC mC a1 a2 a3 a4 a5 a6 a7 a8)) done
theorem comp_range {σ : Type} {elt iter : Expr} {px : Pos} {scope : Scope} {cl : List (Str × Addr)} {pos : Pos} {Q : Value → Shared → Prop} {r : Addr} {n : Nat} {t₀ u₀ v₀ : Tok} {m : Str → Option Value}
  (items : σ → List Value) (nn : σ → Nat) (Own : σ → List (Addr × Obj)) (tail : List (Addr × Obj)) (P : Nat → σ → Prop) (c₀ : σ)
  (F : Fr h₀ L s.heap m) (N : News h₀ L s.heap (Own c₀ ++ tail)) (hr : IsRange s.heap r 0 (n : Int) 1 t₀ u₀ v₀) (hn : n ≤ 1000000) (hh : A.handled = none) (hc1 : items c₀ = []) (hc2 : nn c₀ = 0) (hP : P 0 c₀)
  (hcell : ∀ y ∈ scope.names, y.2 ≠ .cell) (hkind : scope.kind = .function) (hx : scope.names.lookup x = some .local)
  (turn : ∀ (D C I : Addr) (c : σ) (i : Nat) (ti : Tok) h tk oI oC (mC : Str → Option Value), D < C → (∀ p ∈ (I, oI) :: tail, p.1 < D) → i < n → isIter oI = true → P i c → NsO oC (fun y => if y = x then some (.int (i : Int) ti) else mC y) → Fr h₀ L h m → News h₀ L h ((D, listOf (items c).toArray (nn c)) :: (Own c ++ ((C, oC) :: (I, oI) :: tail))) →
   wpAny (model prog w) A (eval elt (compEnvC scope cl C env)) (fun y s₃ => wpAny (model prog w) A (call (.builtin "list.append") [.ref D, y]) (fun _ s₄ => CpEnd h₀ L C I oI (fun c => (D, listOf (items c).toArray (nn c)) :: Own c) tail m P (i + 1) { s with heap := h, toks := tk } s₄) (fun _ _ => False) s₃) (fun _ _ => False) { s with heap := h, toks := tk })
  (done : ∀ (D : Addr) (c : σ) h tk, P n c → Fr h₀ L h m → News h₀ L h ((D, listOf (items c).toArray (nn c)) :: (Own c ++ tail)) → Q (.ref D) { s with heap := h, toks := tk }) :
  wpAny (model prog w) A (pyIter (.ref r)) (fun it s₂ => CompGo prog w A env elt iter x px scope cl pos Q E it s₂) E s :=
 gen_range (rest := restE elt) (p := iter.pos) items nn Own tail P c₀ (fun it acc cenv => hT1 elt (.Name x px) iter scope pos it acc cenv) F N hr hn hh hc1 hc2 hP hcell hkind hx (fun D C I c i ti h tk oI oC mC a1 a2 a3 a4 a5 a6 a7 a8 => rest_E (turn D C I c i ti h tk oI oC mC a1 a2 a3 a4 a5 a6 a7 a8)) done
end
end Mine
end
section
namespace Mine
theorem fig_at : ∀ d : Nat, d < 16 → Txt.item (Str.ofString "0123456789ABCDEF") (d : Int) = mk [hexDig d] := by decide +kernel
theorem signs_eq {c : Nat} (hc : c < 256) : Str.ofString "=" ++ Txt.item (Str.ofString "0123456789ABCDEF") ((c : Int).fdiv 16) ++ Txt.item (Str.ofString "0123456789ABCDEF") ((c : Int).fmod 16) = mk (qL c) := by
 rw [show (16 : Int) = ((16 : Nat) : Int) from rfl, fdiv_nat, fmod_nat, fig_at _ (by omega), fig_at _ (by omega), show Str.ofString "=" = mk [61] from by decide +kernel, mk_append, mk_append]
 rfl
theorem pack_os {h₀ h : Heap} {L D a b c : Addr} {oD oa ob oc : Obj} {os R : List (Addr × Obj)} {G : Prop} (N : News h₀ L h ((D, oD) :: (os ++ (a, oa) :: (b, ob) :: (c, oc) :: R)))
  (k : ∀ oa' ob' oc', oa' = oa → ob' = ob → oc' = oc → News h₀ L h ((D, oD) :: (a, oa') :: (b, ob') :: (c, oc') :: (os ++ R)) → G) : G :=
 k _ _ _ rfl rfl rfl (news_re N (by walk_at "n"))
theorem cn_at (a : Nat) : (List.map (fun (d : Nat) => (d : Int)) (cnts 5)).getD ((a : Int)).toNat 0 = ((cn a : Nat) : Int) := by
 rw [Int.toNat_natCast]
 unfold cn
 simp only [List.getD, List.getElem?_map]
 cases (cnts 5)[a]? <;> rfl
theorem news_drop2 {h₀ h : Heap} {L : Addr} {a b c d e f : Addr × Obj} {R : List (Addr × Obj)} (N : News h₀ L h (a :: b :: c :: d :: e :: f :: R)) : News h₀ L h (a :: b :: c :: d :: R) :=
 news_re N (by walk_at "n")
theorem news_tab7 {h₀ h : Heap} {L : Addr} {a b c d e f g : Addr × Obj} {news tI tD n0 : List (Addr × Obj)} (N : News h₀ L h (a :: b :: c :: d :: e :: f :: g :: news)) (hn : news = tI ++ (tD ++ n0)) : News h₀ L h ((tI ++ tD) ++ (a :: b :: c :: d :: e :: f :: g :: n0)) :=
 news_re N (by subst hn; walk_at "n")
theorem news_comp7 {h₀ h : Heap} {L : Addr} {D C I a b c d e f g : Addr × Obj} {news tI tD n0 : List (Addr × Obj)} (N : News h₀ L h (D :: ((tI ++ tD) ++ (C :: I :: a :: b :: c :: d :: e :: f :: g :: n0)))) (hn : news = tI ++ (tD ++ n0)) : News h₀ L h (D :: C :: I :: a :: b :: c :: d :: e :: f :: g :: news) :=
 news_re N (by subst hn; walk_at "n")
theorem cp_tab7 {h₀ h : Heap} {L C I D : Addr} {oI oC : Obj} {m mC : Str → Option Value} {a b c d e f g : Addr × Obj} {n0 tI tD : List (Addr × Obj)} {P : Nat → List Value × List (Addr × Obj) × List (Addr × Obj) → Prop} {i : Nat} {s₁ : Shared} {tk : Nat} {us : List Value} {v : Value}
  (F : Fr h₀ L h m) (N : News h₀ L h ((D, W.listOf (us.toArray.push v) (us.length + 1)) :: (C, oC) :: (I, oI) :: a :: b :: c :: d :: e :: f :: g :: (tI ++ (tD ++ n0)))) (hC : NsO oC mC) (hTI : TabI tI) (hTD : TabD tD) (hp : P i (us ++ [v], tI, tD)) :
  CpEnd h₀ L C I oI (fun c => (D, W.listOf c.1.toArray c.1.length) :: (c.2.1 ++ c.2.2)) (a :: b :: c :: d :: e :: f :: g :: n0) m P i s₁ { s₁ with heap := h, toks := tk } := by
 k_with_none
 k_with "storeName" => (k_here; (with_reducible show wpAny _ _ (storeName _ _ _) _ _ _); k_dflt (refine' Mine.storeF ?Fw80 ?Nw80 ?_ ?aw80 ?bw80; (case Fw80 => k_asm); (case Nw80 => k_asm); (case aw80 => exact Eq.refl ScopeKind.function); (case bw80 => exact Eq.refl (some NameKind.local)); k_whole; intro h7s m7s F7s N7s; (try k_sweep)))
 k_with "eval Name" => (k_here; (with_reducible show wpAny _ _ (eval (Expr.Name _ _) _) _ _ _); k_dflt (refine' nameX_L ?Fw81 ?vw81 ?_ ?aw81 ?bw81; (case Fw81 => k_asm); (case aw81 => exact Eq.refl ScopeKind.function); (case bw81 => exact Eq.refl (some NameKind.local)); (case vw81 => exact Eq.refl (some _)); k_whole))
 refine cp_app (items := fun c => c.1) (nn := fun c => c.1.length) (Own := fun c => c.2.1 ++ c.2.2) (us := us) (v := v) (fun v9 => (us ++ [v9], tI, tD)) F N hC (List.mem_cons_self ..) rfl (by simp) ?_ (List.mem_cons_of_mem _ (List.mem_cons_of_mem _ (List.mem_cons_self ..))) (List.mem_cons_of_mem _ (List.mem_cons_self ..)) (List.forall_mem_append.mpr ⟨hTI.own, hTD.own⟩) hp
 walk_at "n"
theorem tail_as {h₀ h : Heap} {L : Addr} {a : Addr × Obj} {l : List (Addr × Obj)} (N : News h₀ L h (a :: l)) : ∃ R, R = l ∧ News h₀ L h (a :: R) := ⟨_, rfl, N⟩
theorem offT_ns {o : Obj} {m : Str → Option Value} (h : NsO o m) : OffT o := .inr fun ws e => by
 obtain ⟨es, ep, hd, _⟩ := h
 rw [hd] at e; cases e
theorem qL_item {c : Nat} (j : Nat) (hj : j < 3) : Txt.item (mk (qL c)) (j : Int) = mk [(qL c).getD j 0] := by
 rw [item_at (qL c) j hj, getD_at _ _ _ hj]
theorem strs_snoc1 {us : List Value} {ys : List Str} (h : StrsAre us ys) (y : Str) (t : Tok) : StrsAre (us ++ [.str y t]) (ys ++ [y]) := strs_snoc h
theorem sh_hits {S : List (Nat × Nat × Nat)} {us : List Value} {os : List (Addr × Obj)} (h : ShAre S us os) {l : List (Addr × Obj)} (hl : ∀ q ∈ os, q ∈ l) : ∀ (i : Nat) (v : Value), us[i]? = some v → ∃ (T : Addr) (x y z : Value), v = .ref T ∧ (T, ({ cls := .type "tuple", data := .seq #[x, y, z] } : Obj)) ∈ l := by
 intro i v hv
 have hi : i < S.length := by rw [← h.1]; exact (List.getElem?_eq_some_iff.mp hv).1
 obtain ⟨T, u1, u2, u3, e1, e2⟩ := h.2.2 i S[i] (List.getElem?_eq_getElem hi)
 rw [hv] at e1
 exact ⟨T, _, _, _, Option.some.inj e1, hl _ e2⟩
theorem sh_at {S : List (Nat × Nat × Nat)} {us : List Value} {os l : List (Addr × Obj)} (h : ShAre S us os) {h₀ hh : Heap} {L T : Addr} {x y z : Value} (N : News h₀ L hh l) (hl : ∀ q ∈ os, q ∈ l) {i : Nat} (hv : us[i]? = some (.ref T)) (hT : (T, ({ cls := .type "tuple", data := .seq #[x, y, z] } : Obj)) ∈ l) :
  ∃ q u1 u2 u3, S[i]? = some q ∧ x = .int (q.1 : Nat) u1 ∧ y = .int (q.2.1 : Nat) u2 ∧ z = .int (q.2.2 : Nat) u3 := by
 have hi : i < S.length := by rw [← h.1]; exact (List.getElem?_eq_some_iff.mp hv).1
 obtain ⟨T', u1, u2, u3, e1, e2⟩ := h.2.2 i S[i] (List.getElem?_eq_getElem hi)
 rw [hv] at e1
 cases e1
 have q1 := (N _ hT).1
 have q2 := (N _ (hl _ e2)).1
 rw [q1] at q2
 have q3 := congrArg Obj.data (Option.some.inj q2)
 injection q3 with q3 _
 have q4 := congrArg Array.toList q3
 simp at q4
 exact ⟨S[i], u1, u2, u3, List.getElem?_eq_getElem hi, q4.1, q4.2.1, q4.2.2⟩
end Mine
section
set_option maxHeartbeats 8000000 in
theorem Mine.spell_c (w : World) (D : Addr) (vs : List Value) (nn : Nat) (hvs : IntsAre vs ((Mine.cnts 5).map fun (d : Nat) => ((d : Nat) : Int))) : ∀ (k c n : Nat) (t1 t2 t3 : Tok), c < 256 → k ≤ 5 → n ≤ 1000000 →
  Mine.CtrL w 135 (440 + 10 * k) (6600 + 100 * k) [.str (Mine.mk [c]) t1, .int (k : Nat) t2, .int (n : Nat) t3, .ref D] (fun l => (D, W.listOf vs.toArray nn) ∈ l) (fun r tl => tl = [] ∧ ∃ t, r = .str (Mine.mk (Mine.flat c (Mine.spellT k k n))) t) := by
 k_with_none
 k_with "storeName" => (k_here; (with_reducible show wpAny _ _ (storeName _ _ _) _ _ _); k_dflt (refine' Mine.storeF ?Fw82 ?Nw82 ?_ ?aw82 ?bw82; (case Fw82 => k_asm); (case Nw82 => k_asm); (case aw82 => exact Eq.refl ScopeKind.function); (case bw82 => exact Eq.refl (some NameKind.local)); k_whole; intro h7s m7s F7s N7s; (try k_sweep)))
 k_with "eval Name" => (k_here; (with_reducible show wpAny _ _ (eval (Expr.Name _ _) _) _ _ _); k_dflt (refine' nameX_L ?Fw83 ?vw83 ?_ ?aw83 ?bw83; (case Fw83 => k_asm); (case aw83 => exact Eq.refl ScopeKind.function); (case bw83 => exact Eq.refl (some NameKind.local)); (case vw83 => exact Eq.refl (some _)); k_whole))
 k_with "eval ListComp" => (k_here; k_dflt (refine' Mine.comp_eval ?_ ?c1w84 ?c2w84 ?c3w84; (case c1w84 => rfl); (case c2w84 => rfl); (case c3w84 => decide); k_whole))
 k_with "eval Name" => (k_here; (with_reducible show wpAny _ _ (eval (PySem.Expr.Name _ _) (compEnvC _ _ _ _)) _ _ _); k_dflt (first
 | (refine' Mine.cname_L ?k1w85 ?k2w85 ?k3w85 ?k4w85 ?_ ?k5w85 ?k6w85 ?k7w85; (case k6w85 => rfl); (case k5w85 => rfl); (case k7w85 => decide); (case k1w85 => k_asm); (case k3w85 => assumption); (case k2w85 => k_mem); (case k4w85 => exact rfl); k_whole)
 | (refine' Mine.cname_C ?k1w85 ?k2w85 ?k3w85 ?k4w85 ?_ ?k5w85 ?k6w85 ?k7w85; (case k6w85 => rfl); (case k5w85 => rfl); (case k7w85 => decide); (case k2w85 => rfl); (case k1w85 => k_asm); (case k3w85 => k_mem); (case k4w85 => k_asm); k_whole)
 | (refine' Mine.cname_G ?k1w85 ?k2w85 ?k3w85 ?k4w85 ?_ ?k5w85 ?k6w85 ?k7w85 ?k8w85; (case k7w85 => rfl); (case k6w85 => rfl); (case k5w85 => rfl); (case k8w85 => decide); (case k1w85 => k_asm); (case k2w85 => k_asm); (case k3w85 => k_asm); (case k4w85 => k_is); k_whole)
 | (refine' Mine.cname_B ?k1w85 ?k2w85 ?k3w85 ?k4w85 ?k5w85 ?k6w85 ?_ ?k7w85 ?k8w85 ?k9w85 ?k10w85 ?k11w85; (case k10w85 => rfl); (case k9w85 => rfl); (case k7w85 => rfl); (case k8w85 => rfl); (case k11w85 => decide); (case k1w85 => k_asm); (case k2w85 => k_asm); (case k3w85 => k_asm); (case k4w85 => k_is); (case k5w85 => boot_by_name); (case k6w85 => decide); k_whole)))
 k_with "call builtin:list.append" => (k_here; (with_reducible show wpAny _ _ (call (Value.builtin _) [Value.ref _, _]) _ _ _); k_dflt (refine' append_K ?k1w86 ?k2w86 ?k3w86 ?_ ?zw86; (case k1w86 => k_asm); (case k2w86 => k_asm); (case k3w86 => (first | (refine' Upd.head ?kh3w86; (case kh3w86 => (repeat' (first | (with_reducible assumption) | exact List.forall_mem_nil _ | (refine List.forall_mem_cons.mpr ⟨(by (first | (with_reducible assumption) | exact Nat.ne_of_lt (by with_reducible assumption) | exact Nat.ne_of_gt (by with_reducible assumption) | exact Ne.symm (by with_reducible assumption) | k_ne)), ?_⟩))))) | (refine' Upd.tail ?ka3w86 ?kb3w86; (case ka3w86 => (first | (with_reducible assumption) | exact Nat.ne_of_lt (by with_reducible assumption) | exact Nat.ne_of_gt (by with_reducible assumption) | exact Ne.symm (by with_reducible assumption) | k_ne)); (case kb3w86 => (first | (refine' Upd.head ?kh2w86; (case kh2w86 => (repeat' (first | (with_reducible assumption) | exact List.forall_mem_nil _ | (refine List.forall_mem_cons.mpr ⟨(by (first | (with_reducible assumption) | exact Nat.ne_of_lt (by with_reducible assumption) | exact Nat.ne_of_gt (by with_reducible assumption) | exact Ne.symm (by with_reducible assumption) | k_ne)), ?_⟩))))) | (refine' Upd.tail ?ka2w86 ?kb2w86; (case ka2w86 => (first | (with_reducible assumption) | exact Nat.ne_of_lt (by with_reducible assumption) | exact Nat.ne_of_gt (by with_reducible assumption) | exact Ne.symm (by with_reducible assumption) | k_ne)); (case kb2w86 => (first | (refine' Upd.head ?kh1w86; (case kh1w86 => (repeat' (first | (with_reducible assumption) | exact List.forall_mem_nil _ | (refine List.forall_mem_cons.mpr ⟨(by (first | (with_reducible assumption) | exact Nat.ne_of_lt (by with_reducible assumption) | exact Nat.ne_of_gt (by with_reducible assumption) | exact Ne.symm (by with_reducible assumption) | k_ne)), ?_⟩))))) | (refine' Upd.tail ?ka1w86 ?kb1w86; (case ka1w86 => (first | (with_reducible assumption) | exact Nat.ne_of_lt (by with_reducible assumption) | exact Nat.ne_of_gt (by with_reducible assumption) | exact Ne.symm (by with_reducible assumption) | k_ne)); (case kb1w86 => (fail))))))))))); (case zw86 => first | size_fits | (refine Nat.le_trans (m := 100000) (by simp only [List.size_toArray]; omega) (by decide))); k_whole); intro h' F' N')
 k_with "call builtin:str.join" => (k_here; (with_reducible show wpAny _ _ (call (Value.builtin "str.join") [Value.str _ _, Value.ref _]) _ _ _); k_dflt (refine' join_listW ?k1w87 ?k2w87 ?k3w87 ?k4w87 ?_; (case k1w87 => (refine' News.isList ?n1w87 ?n2w87; (case n1w87 => k_asm); (case n2w87 => k_mem))); (case k2w87 => assumption); (case k3w87 => decide); (case k4w87 => with_reducible assumption); k_whole); intro t9 k9; (try dsimp only))
 k_with "call builtin:str.join" => (k_here; (with_reducible show wpAny _ _ (call (Value.builtin "str.join") ([Value.str _ _] ++ [Value.ref _])) _ _ _); simp only [List.cons_append, List.nil_append])
 k_with "pyIter ref" => (k_here; refine Mine.stop ?_)
 k_with "exec For Tuple Call cons nil" => (k_here; (rename Fr _ _ _ _ => lF'); (with_unfolding_all refine' For_turns lF' ?_; k_whole))
 k_with "call ref" => (k_here; (with_reducible show wpAny _ _ (call (Value.ref 130) _) _ _ _); walk_at "f"; k_dflt (refine' Mine.shares_c _ _ _ ?c1w91 _ _ _ _ _ _ _ _ _ _ _ _ _ _ _ _ _ _ _ _ _ _ _ ?kBw91 ?kFw91 ?kXw91 ?kNw91 ?kTw91 ?kKw91 ?kPw91 ?kdw91 ?kuw91 ?_; (case kBw91 => k_asm); (case kFw91 => k_asm); (case kXw91 => k_asm); (case kNw91 => k_asm); (case kTw91 => k_asm); (case kKw91 => first | exact rfl | assumption); (case kPw91 => trivial); (case kdw91 => first | exact Mine.oDp (by with_reducible assumption) (by exact rfl) | exact Mine.oDq (by with_reducible assumption) (by exact rfl) | omega | ktr_room); (case kuw91 => first | exact Mine.oDp (by with_reducible assumption) (by exact rfl) | exact Mine.oDq (by with_reducible assumption) (by exact rfl) | omega | ktr_units); (case c1w91 => omega); k_whole); intro v9 tl9 h9 tk9 hp9 F9 N9; (try dsimp only at hp9); ((refine Mine.foldG ?_; intro gk264; (first | refine Mine.exE hp9 ?_ | refine Mine.anE hp9 ?_); intro D2 zo260; clear hp9; (first | refine Mine.exE zo260 ?_ | refine Mine.anE zo260 ?_); intro us zo261; clear zo260; (first | refine Mine.exE zo261 ?_ | refine Mine.anE zo261 ?_); intro os zo262; clear zo261; (first | refine Mine.exE zo262 ?_ | refine Mine.anE zo262 ?_); intro e1 zo263; clear zo262; (first | refine Mine.exE zo263 ?_ | refine Mine.anE zo263 ?_); intro e2 hsh; clear zo263; unfold gk264; clear gk264); cases e1; cases e2); (try dsimp only [List.nil_append, List.cons_append] at N9); (try dsimp only); walk_at "f")
 k_with "call ref" => (k_here; (with_reducible show wpAny _ _ (call (Value.ref 135) _) _ _ _); (first | (with_reducible rename News g' L' _ _ => hN9) | rename News g' L' _ _ => hN9); rw [hnews] at hN9; (rw [hsj]); walk_at "f"; k_dflt ((first | (refine' Mine.CtrL.use (ih _ ?c1w92 _ _ _ _ _ ?c2w92 ?c3w92 ?c4w92) [_, _, _, _, _, _, _, _, _, _] ?kBw92 ?kFw92 ?kXw92 hN9 hTI hTD hoff ?kxw92 ?kpw92 ?kTw92 ?kKw92 ?kdw92 ?kuw92 ?_)); (case kBw92 => k_asm); (case kFw92 => k_asm); (case kXw92 => k_asm); (case kxw92 => (repeat' (first | exact List.forall_mem_nil _ | (refine List.forall_mem_cons.mpr ⟨by first | exact Or.inl (by intro h; cases h) | exact Mine.offT_iter (by with_reducible assumption) | assumption, ?_⟩)))); (case kpw92 => exact List.mem_append.mpr (Or.inr hpre)); (case kTw92 => k_asm); (case kKw92 => first | exact rfl | assumption); (case kdw92 => first | exact Mine.oDp (by with_reducible assumption) (by exact rfl) | exact Mine.oDq (by with_reducible assumption) (by exact rfl) | omega | ktr_room); (case kuw92 => first | exact Mine.oDp (by with_reducible assumption) (by exact rfl) | exact Mine.oDq (by with_reducible assumption) (by exact rfl) | omega | ktr_units); (case c1w92 => assumption); (case c2w92 => assumption); (case c3w92 => omega); (case c4w92 => assumption); k_whole); clear hN9; clear hnews; intro v9 tl9 tI tD h9 tk9 hp9 hTI hTD htl9 F9 N9; (refine Mine.nameE (a := tI ++ (tD ++ news0)) ?_; intro news hnews); rw [← hnews] at N9; (try dsimp only at hp9); (((first | refine Mine.exE hp9 ?_ | refine Mine.anE hp9 ?_); intro e1 zo265; clear hp9; (first | refine Mine.exE zo265 ?_ | refine Mine.anE zo265 ?_); intro u8 e2; clear zo265); cases e1; cases e2); (try dsimp only [List.nil_append, List.cons_append] at N9); (try dsimp only); walk_at "f")
 k_with "call ref" => (k_here; (with_reducible show wpAny _ _ (call (Value.ref 99) _) _ _ _); (first | (with_reducible rename News g' L' _ _ => hN9) | rename News g' L' _ _ => hN9); rw [hnews] at hN9;  walk_at "f"; k_dflt ((first | (refine' Mine.CtrL.use (Mine.idiv_c w _ _ ?c1w93 ?c2w93 ?c3w93 _ _) [_, _, _] ?kBw93 ?kFw93 ?kXw93 hN9 hTI hTD hoff ?kxw93 ?kpw93 ?kTw93 ?kKw93 ?kdw93 ?kuw93 ?_) | (refine' Mine.CtrL.use (Mine.idiv_c w _ _ ?c1w93 ?c2w93 ?c3w93 _ _) [_, _, _, _] ?kBw93 ?kFw93 ?kXw93 hN9 hTI hTD hoff ?kxw93 ?kpw93 ?kTw93 ?kKw93 ?kdw93 ?kuw93 ?_)); (case kBw93 => k_asm); (case kFw93 => k_asm); (case kXw93 => k_asm); (case kxw93 => (repeat' (first | exact List.forall_mem_nil _ | (refine List.forall_mem_cons.mpr ⟨by first | exact Or.inl (by intro h; cases h) | exact Mine.offT_iter (by with_reducible assumption) | assumption, ?_⟩)))); (case kpw93 => trivial); (case kTw93 => k_asm); (case kKw93 => first | exact rfl | assumption); (case kdw93 => first | exact Mine.oDp (by with_reducible assumption) (by exact rfl) | exact Mine.oDq (by with_reducible assumption) (by exact rfl) | omega | ktr_room); (case kuw93 => first | exact Mine.oDp (by with_reducible assumption) (by exact rfl) | exact Mine.oDq (by with_reducible assumption) (by exact rfl) | omega | ktr_units); (case c1w93 => assumption); (case c2w93 => assumption); (case c3w93 => assumption); k_whole); clear hN9; clear hnews; intro v9 tl9 tI tD h9 tk9 hp9 hTI hTD htl9 F9 N9; (refine Mine.nameE (a := tI ++ (tD ++ news0)) ?_; intro news hnews); rw [← hnews] at N9; (try dsimp only at hp9); ((refine Mine.foldG ?_; intro gk269; (first | refine Mine.exE hp9 ?_ | refine Mine.anE hp9 ?_); intro T9 zo266; clear hp9; (first | refine Mine.exE zo266 ?_ | refine Mine.anE zo266 ?_); intro u1 zo267; clear zo266; (first | refine Mine.exE zo267 ?_ | refine Mine.anE zo267 ?_); intro u2 zo268; clear zo267; (first | refine Mine.exE zo268 ?_ | refine Mine.anE zo268 ?_); intro e1 e2; clear zo268; unfold gk269; clear gk269); cases e1; cases e2); (try dsimp only [List.nil_append, List.cons_append] at N9); (try dsimp only); walk_at "f")
 k_with "subscriptTail" => (k_here; (with_reducible show wpAny _ _ (subscriptTail _ _ (Value.ref _) (Value.int _ _)) _ _ _); (with_unfolding_all refine' item_anyK ?k1w94 ?k2w94 ?k3w94 ?k4w94 ?k5w94 ?_ ?k6w94; (case k1w94 => exact News.isList (by k_asm) (Mine.mem_of hpre (by intro q hq; simp only [hnews, List.mem_cons, List.mem_append, hq, or_true]))); (case k2w94 => exact hvs); (case k3w94 => omega); (case k4w94 => (rw [List.length_map, Mine.cnts_len]; omega)); (case k5w94 => omega); (case k6w94 => with_unfolding_all rfl); k_whole); intro _; simp only [hca, hcb, hcc])
 k_with "binaryOp Mult int int" => (k_here; k_dflt (refine' mul_int ?_ ?kw95; (case kw95 => first | exact IntMulOk.of_right hcs.1 | exact IntMulOk.of_right hcs.2); k_whole); simp only [hm1, hm2, hm3])
 intro k
 induction k using Nat.strongRecOn with
 | ind k ih =>
 intro c n t1 t2 t3 hc hk5 hn
 ((try unfold Mine.CtrT); unfold Mine.CtrL; k_fill; intro p loose mean mg mb dp un gd cn cs a ccd cl outer A₀ base h₀ L m tI tD news0 s Q E B F X N hTI hTD hoff hpre T hk hd hu hret; (refine Mine.nameE (a := tI ++ (tD ++ news0)) ?_; intro news hnews); rw [← hnews] at N; refine wpAny_call ?_; k_dflt (refine' code_defC (binds := [(Str.ofString "sign", Value.str (Mine.mk [c]) t1), (Str.ofString "k", Value.int (k : Nat) t2), (Str.ofString "number", Value.int (n : Nat) t3), (Str.ofString "counts", Value.ref D)]) ?k1 ?k2 ?k3 ?k4 ?k5 ?kA ?kF ?kK ?k6 ?k7 ?k8 ?k9 ?kB ?kD ?_ ?c2 ?c3 ?c4; (case kA => exact rfl); (case kF => exact rfl); (case kK => assumption); (case k1 => k_asm); (case k2 => k_asm); (case k3 => k_asm); (case k4 => k_asm); (case k5 => k_asm); (case k6 => k_is); (case k7 => k_is); (case k8 => ktr_room); (case k9 => first | exact BindsTo.of_eq (by kernel_rfl) | exact binds_K (by k_in) rfl (by k_is) rfl rfl rfl); (case kB => exact rfl); (case kD => decide +kernel); (case c2 => exact rfl); (case c3 => exact rfl); (case c4 => exact rfl); k_whole; intro g' L' h' tk' cells' FG' F' N' Y' B' X' T' l1; k_cells Y'; (try dsimp only [List.cons_append, List.nil_append] at N'); (try dsimp only); walk_at "f"))
 (replace F' : Fr g' L' h' (kstB (fun _ => none) [(Str.ofString "number", Value.int (n : Nat) t3), (Str.ofString "k", Value.int (k : Nat) t2), (Str.ofString "sign", Value.str (Mine.mk [c]) t1)]) := Mine.fr_same F' (by kernel_rfl))
 dsimp only [kstB] at F'
 (refine Mine.foldA ?_; intro ak)
 have o1 : ∀ p ∈ news, p.1 ≠ L' + 1 := fun p hp => Nat.ne_of_lt (Nat.lt_succ_of_lt (l1 p hp))
 have o2 : ∀ p ∈ news, p.1 ≠ L' + 1 + 1 := fun p hp => Nat.ne_of_lt (Nat.lt_succ_of_lt (Nat.lt_succ_of_lt (l1 p hp)))
 have o3 : ∀ p ∈ news, p.1 ≠ L' + 1 + 1 + 1 := fun p hp => Nat.ne_of_lt (Nat.lt_succ_of_lt (Nat.lt_succ_of_lt (Nat.lt_succ_of_lt (l1 p hp))))
 have hoS0 : ∀ p ∈ news0, p.1 ≠ L' + 1 + 1 + 1 := fun p hp => o3 p (by rw [hnews]; walk_at "m")
 walk_at "~"
 unfold Mine.Stop
 (try k_unmd); (try dsimp only)
 with_reducible rename News g' L' _ _ => hN2
 with_reducible rename Fr g' L' _ _ => hF2
 with_reducible rename Mine.ShAre _ _ _ => hsh
 with_reducible rename List Value => us
 with_reducible rename List (Addr × Obj) => os
 rw [Mine.signs_eq hc] at *
 ((first | refine Mine.exE (Mine.name_1 hN2) ?_ | refine Mine.anE (Mine.name_1 hN2) ?_); intro D2 e)
 subst e
 refine Mine.pack_os hN2 ?_
 intro oS oG oC e1 e2 e3 hN3
 have hoC : oC.data = Data.cell (some (Value.ref D)) := by rw [e3]; assumption
 have hoG : ∃ t, oG.data = Data.cell (some (Value.str (Mine.mk (Mine.qL c)) t)) := by rw [e2]; exact ⟨_, by assumption⟩
 have hoS : ∃ v, oS.data = Data.cell v := by rw [e1]; exact ⟨_, by assumption⟩
 clear hN2 e1 e2 e3
 ((first | refine Mine.exE hoG ?_ | refine Mine.anE hoG ?_); intro tG hoG)
 ((first | refine Mine.exE hoS ?_ | refine Mine.anE hoS ?_); intro vS hoS)
 refine Mine.for_tup3 (σ := Nat × Tok) (fun c => []) ((D2, W.listOf us.toArray us.length) :: (L' + 1 + 1 + 1, oS) :: (L' + 1 + 1, oG) :: (L' + 1, oC) :: (os ++ news)) (fun c => [(Str.ofString "number", .int (c.1 : Nat) c.2)]) [Str.ofString "a", Str.ofString "b", Str.ofString "c_v", Str.ofString "block", Str.ofString "first", Str.ofString "rest", Str.ofString "second", Str.ofString "third"]
  (fun i c => c.1 ≤ 1000000 ∧ Mine.pick (Mine.sharesL k) n = Mine.pick ((Mine.sharesL k).drop i) c.1) (n, t3) rfl (List.mem_cons_self ..) (Mine.sh_hits hsh (by (walk_at "n"))) rfl rfl rfl rfl (by decide) (by decide) (by decide) ?hpn hF2 hN3 ?hk ?hp ?turn ?done
 case hpn => intro c9 p hp; rcases List.mem_singleton.mp hp with rfl; show Str.ofString "number" ≠ Str.ofString "a" ∧ Str.ofString "number" ≠ Str.ofString "b" ∧ Str.ofString "number" ≠ Str.ofString "c_v"; decide
 case hk => intro p hp; rcases List.mem_singleton.mp hp with rfl; rfl
 case hp => exact ⟨hn, rfl⟩
 case turn =>
  ((repeat ((with_reducible rename Fr g' L' _ _ => Fx9); clear Fx9)); (repeat ((with_reducible rename News g' L' _ _ => Nx9); clear Nx9)))
  refine Mine.tq2 ?_
  intro ni tn i T x y z u2 I h tk oI hv hT hoI hP F5 N5
  (try k_unmd); walk_at "f"
  ((first | refine Mine.exE hP ?_ | refine Mine.anE hP ?_); intro hP1 hP2; clear hP)
  (try dsimp only at hP1 hP2)
  (refine Mine.foldG ?_; intro gk279; (first | refine Mine.exE (Mine.sh_at (l := (I, oI) :: (D2, W.listOf us.toArray us.length) :: (L' + 1 + 1 + 1, oS) :: (L' + 1 + 1, oG) :: (L' + 1, oC) :: (os ++ news)) hsh N5 (by (walk_at "n")) hv (List.mem_cons_of_mem _ hT)) ?_ | refine Mine.anE (Mine.sh_at (l := (I, oI) :: (D2, W.listOf us.toArray us.length) :: (L' + 1 + 1 + 1, oS) :: (L' + 1 + 1, oG) :: (L' + 1, oC) :: (os ++ news)) hsh N5 (by (walk_at "n")) hv (List.mem_cons_of_mem _ hT)) ?_); intro q zo270; (first | refine Mine.exE zo270 ?_ | refine Mine.anE zo270 ?_); intro u1 zo271; clear zo270; (first | refine Mine.exE zo271 ?_ | refine Mine.anE zo271 ?_); intro u22 zo272; clear zo271; (first | refine Mine.exE zo272 ?_ | refine Mine.anE zo272 ?_); intro u3 zo273; clear zo272; (first | refine Mine.exE zo273 ?_ | refine Mine.anE zo273 ?_); intro hq zo274; clear zo273; (first | refine Mine.exE zo274 ?_ | refine Mine.anE zo274 ?_); intro zo275 zo276; clear zo274; (first | refine Mine.exE zo276 ?_ | refine Mine.anE zo276 ?_); intro zo277 zo278; clear zo276; unfold gk279; clear gk279; subst zo275; subst zo277; subst zo278)
  rcases q with ⟨a9, b9, c9⟩
  have hq2 : (a9, b9, c9) ∈ Mine.sharesL k := List.mem_of_getElem? hq
  ((first | refine Mine.exE (Mine.shares_mem hq2) ?_ | refine Mine.anE (Mine.shares_mem hq2) ?_); intro ha9 zo280; (first | refine Mine.exE zo280 ?_ | refine Mine.anE zo280 ?_); intro hb9 hc9; clear zo280)
  (try dsimp only at ha9 hb9 hc9)
  have hdrop : (Mine.sharesL k).drop i = (a9, b9, c9) :: (Mine.sharesL k).drop (i + 1) := by
   ((first | refine Mine.exE (List.getElem?_eq_some_iff.mp hq) ?_ | refine Mine.anE (List.getElem?_eq_some_iff.mp hq) ?_); intro h1 h2)
   rw [List.drop_eq_getElem_cons h1, h2]
  rw [hdrop] at hP2
  have hca := Mine.cn_at a9
  have hcb := Mine.cn_at b9
  have hcc := Mine.cn_at c9
  have hpa := Mine.cn_pos a9 (by omega)
  have hpb := Mine.cn_pos b9 (by omega)
  have hpc := Mine.cn_pos c9 (by omega)
  have hla := Mine.cn_le a9 (by omega)
  have hlb := Mine.cn_le b9 (by omega)
  have hlc := Mine.cn_le c9 (by omega)
  generalize hA : Mine.cn a9 = ca at *
  generalize hB : Mine.cn b9 = cb at *
  generalize hC : Mine.cn c9 = cc at *
  have hm1 : (ca : Int) * (cb : Int) = ((ca * cb : Nat) : Int) := by simp
  have hm2 : ((ca * cb : Nat) : Int) * (cc : Int) = ((ca * cb * cc : Nat) : Int) := by simp
  have hm3 : (cb : Int) * (cc : Int) = ((cb * cc : Nat) : Int) := by simp
  have hbc : 0 < cb * cc := Nat.mul_pos hpb hpc
  have hbc2 : cb * cc ≤ 273 * 273 := Nat.mul_le_mul hlb hlc
  have hb1 : Builtin.Int.intBits ((ni : Nat) : Int) ≤ 200 := Nat.le_trans (Mine.bits_lt (m := 30) (by omega)) (by decide)
  have hb2 : Builtin.Int.intBits ((cb * cc : Nat) : Int) ≤ 200 := Nat.le_trans (Mine.bits_lt (m := 30) (by omega)) (by decide)
  have hb3 : Builtin.Int.intBits ((cc : Nat) : Int) ≤ 200 := Nat.le_trans (Mine.bits_lt (m := 30) (by omega)) (by decide)
  have hb4 : Builtin.Int.intBits ((ni % (cb * cc) : Nat) : Int) ≤ 200 := Nat.le_trans (Mine.bits_lt (m := 30) (by have := Nat.mod_lt ni hbc; omega)) (by decide)
  have hcs : Builtin.Int.intBits ((cb : Nat) : Int) ≤ 64 ∧ Builtin.Int.intBits ((cc : Nat) : Int) ≤ 64 := ⟨Nat.le_trans (Mine.bits_lt (m := 30) (by omega)) (by decide), Nat.le_trans (Mine.bits_lt (m := 30) (by omega)) (by decide)⟩
  unfold Mine.upd3 at F5
  dsimp only [kstB] at F5
  dsimp only [List.nil_append] at N5
  (try k_unmd); walk_at "f"
  walk_at "~"
  ·with_reducible rename News g' L' _ _ => hN4
   replace hN4 := Mine.news_re (l' := (L' + 1 + 1 + 1, oS) :: (L' + 1 + 1, oG) :: (L' + 1, oC) :: news) hN4 (by (walk_at "n"))
   have hOS : Mine.OffT oS := .inr (by intro ws; rw [hoS]; simp)
   have hOG : Mine.OffT oG := .inr (by intro ws; rw [hoG]; simp)
   have hOC : Mine.OffT oC := .inr (by intro ws; rw [hoC]; simp)
   walk_at "~"
   with_reducible rename News g' L' _ _ => hN5
   replace hN5 := Mine.news_drop2 hN5
   have hn0 : ∀ p ∈ news0, p.1 ≠ L' + 1 + 1 + 1 := hoS0
   have hoqS : ∀ p ∈ news, p.1 ≠ L' + 1 + 1 + 1 := Mine.news_apart hN5 hnews hTI hTD (by intro q hq; walk_at "m") (ob := oS) (by walk_at "m") (by intro ws; rw [hoS]; simp) hn0
   walk_at "~"
   unfold Mine.Stop
   (try k_unmd); (try dsimp only)
   with_reducible rename News g' L' _ _ => hN6
   with_reducible rename Fr g' L' _ _ => hF6
   with_reducible rename IsRange _ _ _ _ _ _ _ _ => hR
   ((first | refine Mine.exE (Mine.name_1 hN6) ?_ | refine Mine.anE (Mine.name_1 hN6) ?_); intro SL e)
   subst e
   ((first | refine Mine.exE (Mine.name_2 hN6) ?_ | refine Mine.anE (Mine.name_2 hN6) ?_); intro X2 e)
   subst e
   ((first | refine Mine.exE (Mine.name_3 hN6) ?_ | refine Mine.anE (Mine.name_3 hN6) ?_); intro X1 e)
   subst e
   ((first | refine Mine.exE (Mine.name_4 hN6) ?_ | refine Mine.anE (Mine.name_4 hN6) ?_); intro X0 e)
   subst e
   ((first | refine Mine.exE (Mine.nameo_5 hN6) ?_ | refine Mine.anE (Mine.nameo_5 hN6) ?_); intro oS2 e)
   subst e
   have hoS2 : oS2.data = Data.cell (some (Value.ref SL)) := by assumption
   have hOS2 : Mine.OffT oS2 := .inr (by intro ws; rw [hoS2]; simp)
   have h7 := Mine.news_tab7 hN6 hnews
   refine Mine.comp_range (σ := List Value × List (Addr × Obj) × List (Addr × Obj)) (fun c => c.1) (fun c => c.1.length) (fun c => c.2.1 ++ c.2.2) _
    (fun i e => Mine.TabI e.2.1 ∧ Mine.TabD e.2.2 ∧ StrsAre e.1 (([Mine.flat 61 (Mine.spellT a9 a9 (ni / (cb * cc))), Mine.flat (Mine.hexDig (c / 16)) (Mine.spellT b9 b9 (ni % (cb * cc) / cc)), Mine.flat (Mine.hexDig (c % 16)) (Mine.spellT c9 c9 (ni % (cb * cc) % cc))].map Mine.mk).take i)) ([], tI, tD) hF6 h7 hR (by decide) rfl rfl rfl ?hP ?hcell rfl rfl ?turn2 ?done2
   case hP => exact ⟨hTI, hTD, .nil⟩
   case hcell => decide
   case turn2 =>
    ((repeat ((with_reducible rename Fr g' L' _ _ => Fx9); clear Fx9)); (repeat ((with_reducible rename News g' L' _ _ => Nx9); clear Nx9)))
    clear hoqS hn0 hR hsh
    intro D8 C8 I2
    refine Mine.tq3 ?_
    intro us8 tI tD i8 ti h tk oI2 oC2 mC hDC hDl hi8 hoI2 hP8 hNC F5 N5
    (try k_unmd); walk_at "f"
    ((first | refine Mine.exE hP8 ?_ | refine Mine.anE hP8 ?_); intro hTI zo281; clear hP8; (first | refine Mine.exE zo281 ?_ | refine Mine.anE zo281 ?_); intro hTD hus; clear zo281)
    (try dsimp only at hTI hTD hus N5)
    replace hi8 : i8 < 3 := hi8
    have hoff1 : I2 ≠ D8 := Nat.ne_of_lt (hDl _ (List.mem_cons_self ..))
    have hoff2 : SL ≠ D8 := Nat.ne_of_lt (hDl (SL, _) (List.mem_cons_of_mem _ (List.mem_cons_self ..)))
    have hoff3 : X2 ≠ D8 := Nat.ne_of_lt (hDl (X2, _) (List.mem_cons_of_mem _ (List.mem_cons_of_mem _ (List.mem_cons_self ..))))
    have hoff4 : X1 ≠ D8 := Nat.ne_of_lt (hDl (X1, _) (List.mem_cons_of_mem _ (List.mem_cons_of_mem _ (List.mem_cons_of_mem _ (List.mem_cons_self ..)))))
    have hoff5 : X0 ≠ D8 := Nat.ne_of_lt (hDl (X0, _) (List.mem_cons_of_mem _ (List.mem_cons_of_mem _ (List.mem_cons_of_mem _ (List.mem_cons_of_mem _ (List.mem_cons_self ..))))))
    have hoff6 : L' + 1 + 1 + 1 ≠ D8 := Nat.ne_of_lt (hDl (L' + 1 + 1 + 1, oS2) (by walk_at "m"))
    have hoff7 : L' + 1 + 1 ≠ D8 := Nat.ne_of_lt (hDl (L' + 1 + 1, oG) (by walk_at "m"))
    have hoff8 : L' + 1 ≠ D8 := Nat.ne_of_lt (hDl (L' + 1, oC) (by walk_at "m"))
    have hoff0 : ∀ p ∈ news0, p.1 ≠ D8 := fun p hp => Nat.ne_of_lt (hDl p (by walk_at "m"))
    have hOC8 := Mine.offT_ns hNC
    have hul : us8.length ≤ 3 := by
     have := StrsAre.len_eq hus
     rw [this, List.length_take]; omega
    (refine Mine.nameE (a := tI ++ (tD ++ news0)) ?_; intro news hnews)
    replace N5 := Mine.news_comp7 N5 hnews
    clear hDl
    have h61 : 61 < 256 := by decide
    have hql3 : (Mine.mk (Mine.qL c)).length = 3 := rfl
    have hhi : Mine.hexDig (c / 16) < 256 := Mine.dig256 (by omega)
    have hlo : Mine.hexDig (c % 16) < 256 := Mine.dig256 (by omega)
    have ha5 : a9 ≤ 5 := by omega
    have hb5 : b9 ≤ 5 := by omega
    have hc5 : c9 ≤ 5 := by omega
    have hn1 : ni / (cb * cc) ≤ 1000000 := Nat.le_trans (Nat.div_le_self _ _) hP1
    have hn2 : ni % (cb * cc) / cc ≤ 1000000 := Nat.le_trans (Nat.div_le_self _ _) (Nat.le_trans (Nat.mod_le _ _) hP1)
    have hn3 : ni % (cb * cc) % cc ≤ 1000000 := Nat.le_trans (Nat.mod_le _ _) (Nat.le_trans (Nat.mod_le _ _) hP1)
    (try k_unmd); walk_at "f"
    obtain rfl | rfl | rfl : i8 = 0 ∨ i8 = 1 ∨ i8 = 2 := by omega
    ·have hsj : Txt.item (Mine.mk (Mine.qL c)) ((0 : Nat) : Int) = Mine.mk [61] := Mine.qL_item 0 (by decide)
     walk_at "~"
     with_reducible rename News g' L' _ _ => hN9
     with_reducible rename Fr g' L' _ _ => hF9
     have hoq9 : ∀ p ∈ news, p.1 ≠ D8 := Mine.news_apart hN9 hnews hTI hTD (fun q hq => by walk_at "m") (List.mem_cons_self ..) (by intro ws; simp [W.listOf]) hoff0
     refine append_K hF9 hN9 (Upd.head (List.forall_mem_cons.mpr ⟨Nat.ne_of_gt hDC, List.forall_mem_cons.mpr ⟨hoff1, List.forall_mem_cons.mpr ⟨hoff2, List.forall_mem_cons.mpr ⟨hoff3, List.forall_mem_cons.mpr ⟨hoff4, List.forall_mem_cons.mpr ⟨hoff5, List.forall_mem_cons.mpr ⟨hoff6, List.forall_mem_cons.mpr ⟨hoff7, List.forall_mem_cons.mpr ⟨hoff8, hoq9⟩⟩⟩⟩⟩⟩⟩⟩⟩)) ?_ (Nat.le_trans (Nat.le_trans (Nat.le_of_eq List.size_toArray) hul) (by rw [sizeLine_eq]; decide))
     clear hN9 hF9
     intro h9 F9 N9
     rw [hnews] at N9
     (try k_unmd); (try k_unfold); (try dsimp only)
     exact Mine.cp_tab7 F9 N9 hNC hTI hTD ⟨hTI, hTD, Mine.strs_snoc1 hus _ _⟩
    ·have hsj : Txt.item (Mine.mk (Mine.qL c)) ((1 : Nat) : Int) = Mine.mk [Mine.hexDig (c / 16)] := Mine.qL_item 1 (by decide)
     walk_at "~"
     with_reducible rename News g' L' _ _ => hN9
     with_reducible rename Fr g' L' _ _ => hF9
     have hoq9 : ∀ p ∈ news, p.1 ≠ D8 := Mine.news_apart hN9 hnews hTI hTD (fun q hq => by walk_at "m") (List.mem_cons_self ..) (by intro ws; simp [W.listOf]) hoff0
     refine append_K hF9 hN9 (Upd.head (List.forall_mem_cons.mpr ⟨Nat.ne_of_gt hDC, List.forall_mem_cons.mpr ⟨hoff1, List.forall_mem_cons.mpr ⟨hoff2, List.forall_mem_cons.mpr ⟨hoff3, List.forall_mem_cons.mpr ⟨hoff4, List.forall_mem_cons.mpr ⟨hoff5, List.forall_mem_cons.mpr ⟨hoff6, List.forall_mem_cons.mpr ⟨hoff7, List.forall_mem_cons.mpr ⟨hoff8, hoq9⟩⟩⟩⟩⟩⟩⟩⟩⟩)) ?_ (Nat.le_trans (Nat.le_trans (Nat.le_of_eq List.size_toArray) hul) (by rw [sizeLine_eq]; decide))
     clear hN9 hF9
     intro h9 F9 N9
     rw [hnews] at N9
     (try k_unmd); (try k_unfold); (try dsimp only)
     exact Mine.cp_tab7 F9 N9 hNC hTI hTD ⟨hTI, hTD, Mine.strs_snoc1 hus _ _⟩
    ·have hsj : Txt.item (Mine.mk (Mine.qL c)) ((2 : Nat) : Int) = Mine.mk [Mine.hexDig (c % 16)] := Mine.qL_item 2 (by decide)
     walk_at "~"
     with_reducible rename News g' L' _ _ => hN9
     with_reducible rename Fr g' L' _ _ => hF9
     have hoq9 : ∀ p ∈ news, p.1 ≠ D8 := Mine.news_apart hN9 hnews hTI hTD (fun q hq => by walk_at "m") (List.mem_cons_self ..) (by intro ws; simp [W.listOf]) hoff0
     refine append_K hF9 hN9 (Upd.head (List.forall_mem_cons.mpr ⟨Nat.ne_of_gt hDC, List.forall_mem_cons.mpr ⟨hoff1, List.forall_mem_cons.mpr ⟨hoff2, List.forall_mem_cons.mpr ⟨hoff3, List.forall_mem_cons.mpr ⟨hoff4, List.forall_mem_cons.mpr ⟨hoff5, List.forall_mem_cons.mpr ⟨hoff6, List.forall_mem_cons.mpr ⟨hoff7, List.forall_mem_cons.mpr ⟨hoff8, hoq9⟩⟩⟩⟩⟩⟩⟩⟩⟩)) ?_ (Nat.le_trans (Nat.le_trans (Nat.le_of_eq List.size_toArray) hul) (by rw [sizeLine_eq]; decide))
     clear hN9 hF9
     intro h9 F9 N9
     rw [hnews] at N9
     (try k_unmd); (try k_unfold); (try dsimp only)
     exact Mine.cp_tab7 F9 N9 hNC hTI hTD ⟨hTI, hTD, Mine.strs_snoc1 hus _ _⟩
   case done2 =>
    ((repeat ((with_reducible rename Fr g' L' _ _ => Fx9); clear Fx9)); (repeat ((with_reducible rename News g' L' _ _ => Nx9); clear Nx9)))
    clear hoqS hn0 hR hsh
    intro D8
    refine Mine.tq3 ?_
    intro us8 tI tD h tk hP8 F5 N5
    (try k_unmd); walk_at "f"
    ((first | refine Mine.exE hP8 ?_ | refine Mine.anE hP8 ?_); intro hTI zo282; clear hP8; (first | refine Mine.exE zo282 ?_ | refine Mine.anE zo282 ?_); intro hTD hus; clear zo282)
    (try dsimp only at hTI hTD hus N5)
    rw [List.take_of_length_le (by simp)] at hus
    have hw : ((([Mine.flat 61 (Mine.spellT a9 a9 (ni / (cb * cc))), Mine.flat (Mine.hexDig (c / 16)) (Mine.spellT b9 b9 (ni % (cb * cc) / cc)), Mine.flat (Mine.hexDig (c % 16)) (Mine.spellT c9 c9 (ni % (cb * cc) % cc))].map Mine.mk).map (·.length)).sum + ([Mine.flat 61 (Mine.spellT a9 a9 (ni / (cb * cc))), Mine.flat (Mine.hexDig (c / 16)) (Mine.spellT b9 b9 (ni % (cb * cc) / cc)), Mine.flat (Mine.hexDig (c % 16)) (Mine.spellT c9 c9 (ni % (cb * cc) % cc))].map Mine.mk).length ≤ 1048576) := by
     have s1 := Mine.size_spell a9 a9 (ni / (cb * cc))
     have s2 := Mine.size_spell b9 b9 (ni % (cb * cc) / cc)
     have s3 := Mine.size_spell c9 c9 (ni % (cb * cc) % cc)
     simp only [List.map_cons, List.map_nil, List.sum_cons, List.sum_nil, List.length_cons, List.length_nil, Mine.mk_length, Mine.flat_len]
     omega
    have hres : Txt.join (Str.ofString "") ([Mine.flat 61 (Mine.spellT a9 a9 (ni / (cb * cc))), Mine.flat (Mine.hexDig (c / 16)) (Mine.spellT b9 b9 (ni % (cb * cc) / cc)), Mine.flat (Mine.hexDig (c % 16)) (Mine.spellT c9 c9 (ni % (cb * cc) % cc))].map Mine.mk) = Mine.mk (Mine.flat c (Mine.spellT k k n)) := by
     have hpk : Mine.pick (Mine.sharesL k) n = some ((a9, b9, c9), ni) := by
      rw [hP2, Mine.pick]
      (try dsimp only)
      rw [hA, hB, hC, if_pos (by omega)]
     rw [Mine.join_empty, Mine.spellT_step hpk]
     (try dsimp only)
     rw [hB, hC]
     simp [Mine.flat]
    generalize [Mine.flat 61 (Mine.spellT a9 a9 (ni / (cb * cc))), Mine.flat (Mine.hexDig (c / 16)) (Mine.spellT b9 b9 (ni % (cb * cc) / cc)), Mine.flat (Mine.hexDig (c % 16)) (Mine.spellT c9 c9 (ni % (cb * cc) % cc))].map Mine.mk = ys at *
    ((first | refine Mine.exE (Mine.tail_as N5) ?_ | refine Mine.anE (Mine.tail_as N5) ?_); intro R zo283; (first | refine Mine.exE zo283 ?_ | refine Mine.anE zo283 ?_); intro hRR N7; clear zo283)
    clear N5
    have hjl : (Txt.join (Str.ofString "") ys).length ≤ 1048576 := by
     rw [hres, Mine.mk_length, Mine.flat_len]; have := Mine.size_spell k k n; omega
    (try k_unmd); walk_at "f"
    walk_at "~"
    with_reducible rename News g' L' _ _ => hN9
    with_reducible rename Fr g' L' _ _ => hF9
    (try k_unmd)
    (try unfold Mine.LpPost)
    (try dsimp only)
    (try k_unfold)
    (try dsimp only)
    refine leaveK_ hF9 hN9 ?_
    intro kF kN
    (try dsimp only)
    exact hret _ [] tI tD _ _ ⟨rfl, _, congrArg (Value.str · _) hres⟩ hTI hTD (fun _ h => nomatch h) kF (Mine.news_re kN (by intro p hp; rw [hRR]; simp only [List.nil_append, List.mem_append, List.mem_cons] at hp ⊢; rcases hp with h | h | h <;> simp only [h, true_or, or_true]))
  ·with_reducible rename ¬ _ => hz
   have hz2 : ¬ ni < ca * cb * cc := by omega
   have hsub : (ni : Int) - ((ca * cb * cc : Nat) : Int) = ((ni - ca * cb * cc : Nat) : Int) := by omega
   have hpk : Mine.pick (Mine.sharesL k) n = Mine.pick ((Mine.sharesL k).drop (i + 1)) (ni - ca * cb * cc) := by
    rw [hP2]
    rw [Mine.pick]
    (try dsimp only)
    rw [hA, hB, hC, if_neg hz2]
   with_reducible rename Fr g' L' _ _ => hF5
   dsimp +zetaDelta only at hF5
   rw [hsub] at hF5
   ((try dsimp only); (try k_unmd); (try k_unfold); (try unfold Mine.LpPost); (try dsimp only); (first | (with_reducible rename Fr g' L' _ _ => hF9) | rename Fr g' L' _ _ => hF9); (first | (with_reducible rename News g' L' _ _ => hN9) | rename News g' L' _ _ => hN9); refine Mine.lp_end (ni - ca * cb * cc, ?v9) hF9 hN9 ?z93n ?z93i ?z93o ?z93k ?z93r ?z93p; (case z93k => walk_at "h"); (case z93n => (try dsimp only); (walk_at "n")); (case z93i => k_mem); (case z93o => exact List.forall_mem_nil _); (case z93r => walk_at "o"); (case z93p => exact ⟨by dsimp only; omega, hpk⟩))
 case done =>
  ((repeat ((with_reducible rename Fr g' L' _ _ => Fx9); clear Fx9)); (repeat ((with_reducible rename News g' L' _ _ => Nx9); clear Nx9)))
  refine Mine.tq2 ?_
  intro ni tn u2 h tk hP F5 N5
  (try k_unmd); walk_at "f"
  ((first | refine Mine.exE hP ?_ | refine Mine.anE hP ?_); intro hP1 hP2; clear hP)
  (try dsimp only at hP1 hP2)
  rw [hsh.1, List.drop_length] at hP2
  have hres := Mine.spellT_none (hP2.trans rfl)
  dsimp only [kstB] at F5
  dsimp only [List.nil_append] at N5
  (try k_unmd); walk_at "f"
  walk_at "~"
  with_reducible rename News h₀ L _ _ => hN9
  with_reducible rename Fr h₀ L _ _ => hF9
  rw [hnews] at hN9
  exact hret _ [] tI tD _ _ ⟨rfl, _, by rw [hres]; rfl⟩ hTI hTD (fun _ h => nomatch h) hF9 (Mine.news_re hN9 (by (walk_at "n")))
end
end
section
section
set_option maxHeartbeats 8000000 in
theorem Mine.round_c (w : World) (x : List Nat) (hx : x.length ≤ 1000) (hok : Mine.RoundOk x) (t : Tok) :
  Mine.Ctr w 152 10 100 [.str (Mine.mk x) t] (fun _ => True) (fun r tl => tl = [] ∧ ∃ k, r = .str (Mine.mk (Mine.roundL x)) k) := by
 k_with_none
 k_with "storeName" => (k_here; (with_reducible show wpAny _ _ (storeName _ _ _) _ _ _); k_dflt (refine' Mine.storeF ?Fw96 ?Nw96 ?_ ?aw96 ?bw96; (case Fw96 => k_asm); (case Nw96 => k_asm); (case aw96 => exact Eq.refl ScopeKind.function); (case bw96 => exact Eq.refl (some NameKind.local)); k_whole; intro h7s m7s F7s N7s; (try k_sweep)))
 k_with "eval Name" => (k_here; (with_reducible show wpAny _ _ (eval (Expr.Name _ _) _) _ _ _); k_dflt (refine' nameX_L ?Fw97 ?vw97 ?_ ?aw97 ?bw97; (case Fw97 => k_asm); (case aw97 => exact Eq.refl ScopeKind.function); (case bw97 => exact Eq.refl (some NameKind.local)); (case vw97 => exact Eq.refl (some _)); k_whole))
 k_with "eval ListComp" => (k_here; k_dflt (refine' Mine.comp_eval ?_ ?c1w98 ?c2w98 ?c3w98; (case c1w98 => rfl); (case c2w98 => rfl); (case c3w98 => decide); k_whole))
 k_with "eval Name" => (k_here; (with_reducible show wpAny _ _ (eval (PySem.Expr.Name _ _) (compEnvC _ _ _ _)) _ _ _); k_dflt (first
 | (refine' Mine.cname_L ?k1w99 ?k2w99 ?k3w99 ?k4w99 ?_ ?k5w99 ?k6w99 ?k7w99; (case k6w99 => rfl); (case k5w99 => rfl); (case k7w99 => decide); (case k1w99 => k_asm); (case k3w99 => assumption); (case k2w99 => k_mem); (case k4w99 => exact rfl); k_whole)
 | (refine' Mine.cname_C ?k1w99 ?k2w99 ?k3w99 ?k4w99 ?_ ?k5w99 ?k6w99 ?k7w99; (case k6w99 => rfl); (case k5w99 => rfl); (case k7w99 => decide); (case k2w99 => rfl); (case k1w99 => k_asm); (case k3w99 => k_mem); (case k4w99 => k_asm); k_whole)
 | (refine' Mine.cname_G ?k1w99 ?k2w99 ?k3w99 ?k4w99 ?_ ?k5w99 ?k6w99 ?k7w99 ?k8w99; (case k7w99 => rfl); (case k6w99 => rfl); (case k5w99 => rfl); (case k8w99 => decide); (case k1w99 => k_asm); (case k2w99 => k_asm); (case k3w99 => k_asm); (case k4w99 => k_is); k_whole)
 | (refine' Mine.cname_B ?k1w99 ?k2w99 ?k3w99 ?k4w99 ?k5w99 ?k6w99 ?_ ?k7w99 ?k8w99 ?k9w99 ?k10w99 ?k11w99; (case k10w99 => rfl); (case k9w99 => rfl); (case k7w99 => rfl); (case k8w99 => rfl); (case k11w99 => decide); (case k1w99 => k_asm); (case k2w99 => k_asm); (case k3w99 => k_asm); (case k4w99 => k_is); (case k5w99 => boot_by_name); (case k6w99 => decide); k_whole)))
 k_with "call builtin:list.append" => (k_here; (with_reducible show wpAny _ _ (call (Value.builtin _) [Value.ref _, _]) _ _ _); k_dflt (refine' append_K ?k1w100 ?k2w100 ?k3w100 ?_ ?zw100; (case k1w100 => k_asm); (case k2w100 => k_asm); (case k3w100 => (first | (refine' Upd.head ?kh3w100; (case kh3w100 => (repeat' (first | (with_reducible assumption) | exact List.forall_mem_nil _ | (refine List.forall_mem_cons.mpr ⟨(by (first | (with_reducible assumption) | exact Nat.ne_of_lt (by with_reducible assumption) | exact Nat.ne_of_gt (by with_reducible assumption) | exact Ne.symm (by with_reducible assumption) | k_ne)), ?_⟩))))) | (refine' Upd.tail ?ka3w100 ?kb3w100; (case ka3w100 => (first | (with_reducible assumption) | exact Nat.ne_of_lt (by with_reducible assumption) | exact Nat.ne_of_gt (by with_reducible assumption) | exact Ne.symm (by with_reducible assumption) | k_ne)); (case kb3w100 => (first | (refine' Upd.head ?kh2w100; (case kh2w100 => (repeat' (first | (with_reducible assumption) | exact List.forall_mem_nil _ | (refine List.forall_mem_cons.mpr ⟨(by (first | (with_reducible assumption) | exact Nat.ne_of_lt (by with_reducible assumption) | exact Nat.ne_of_gt (by with_reducible assumption) | exact Ne.symm (by with_reducible assumption) | k_ne)), ?_⟩))))) | (refine' Upd.tail ?ka2w100 ?kb2w100; (case ka2w100 => (first | (with_reducible assumption) | exact Nat.ne_of_lt (by with_reducible assumption) | exact Nat.ne_of_gt (by with_reducible assumption) | exact Ne.symm (by with_reducible assumption) | k_ne)); (case kb2w100 => (first | (refine' Upd.head ?kh1w100; (case kh1w100 => (repeat' (first | (with_reducible assumption) | exact List.forall_mem_nil _ | (refine List.forall_mem_cons.mpr ⟨(by (first | (with_reducible assumption) | exact Nat.ne_of_lt (by with_reducible assumption) | exact Nat.ne_of_gt (by with_reducible assumption) | exact Ne.symm (by with_reducible assumption) | k_ne)), ?_⟩))))) | (refine' Upd.tail ?ka1w100 ?kb1w100; (case ka1w100 => (first | (with_reducible assumption) | exact Nat.ne_of_lt (by with_reducible assumption) | exact Nat.ne_of_gt (by with_reducible assumption) | exact Ne.symm (by with_reducible assumption) | k_ne)); (case kb1w100 => (fail))))))))))); (case zw100 => first | size_fits | (refine Nat.le_trans (m := 100000) (by simp only [List.size_toArray]; omega) (by decide))); k_whole); intro h' F' N')
 k_with "call builtin:str.join" => (k_here; (with_reducible show wpAny _ _ (call (Value.builtin "str.join") [Value.str _ _, Value.ref _]) _ _ _); k_dflt (refine' join_listW ?k1w101 ?k2w101 ?k3w101 ?k4w101 ?_; (case k1w101 => (refine' News.isList ?n1w101 ?n2w101; (case n1w101 => k_asm); (case n2w101 => k_mem))); (case k2w101 => assumption); (case k3w101 => decide); (case k4w101 => with_reducible assumption); k_whole); intro t9 k9; (try dsimp only))
 k_with "call builtin:str.join" => (k_here; (with_reducible show wpAny _ _ (call (Value.builtin "str.join") ([Value.str _ _] ++ [Value.ref _])) _ _ _); simp only [List.cons_append, List.nil_append])
 k_with "call type:int" => (k_here; (with_reducible show wpAny _ _ (call (Value.type "int") [Value.str _ _, Value.int _ _]) _ _ _); (with_unfolding_all refine' Mine.call_hex ?k1w103 ?k2w103 ?k3w103 ?_; (case k1w103 => with_reducible assumption); (case k2w103 => with_reducible assumption); (case k3w103 => with_reducible assumption); k_whole))
 k_with "pyIter ref" => (k_here; refine Mine.stop ?_)
 have hx1 : (Mine.mk x).length ≤ 1000 := by rw [Mine.mk_length]; exact hx
 (unfold Mine.Ctr; k_fill; intro p loose mean mg mb dp un gd cn cs a ccd cl outer A₀ base h₀ L m news s Q E B F X N T hk hpre hd hu hret; refine wpAny_call ?_; k_dflt (refine' code_def (binds := [(Str.ofString "text", Value.str (Mine.mk x) t)]) ?k1 ?k2 ?k3 ?k4 ?k5 ?kA ?kF ?kK ?k6 ?k7 ?k8 ?k9 ?kB ?_ ?c2 ?c3 ?c4 ?c5; (case kA => exact rfl); (case kF => exact rfl); (case kK => assumption); (case k1 => k_asm); (case k2 => k_asm); (case k3 => k_asm); (case k4 => k_asm); (case k5 => k_asm); (case k6 => k_is); (case k7 => k_is); (case k8 => ktr_room); (case k9 => first | exact BindsTo.of_eq (by kernel_rfl) | exact binds_K (by k_in) rfl (by k_is) rfl rfl rfl); (case c5 => decide); (case kB => exact locs rfl); (case c2 => exact rfl); (case c3 => exact rfl); (case c4 => exact rfl); k_whole; intro g' L' h' FG' F' N' B' X' T'; (try dsimp only); walk_at "f"))
 (replace F' : Fr g' L' h' (kstB (fun _ => none) [(Str.ofString "text", Value.str (Mine.mk x) t)]) := Mine.fr_args F' rfl; dsimp only [kstB] at F'; simp only [List.length_cons, List.length_nil, Nat.zero_add]); (refine Mine.foldA ?_; intro ak)
 walk_at "~"
 unfold Mine.Stop
 with_reducible rename StrsAre _ _ => hsa
 with_reducible rename List.map _ _ = Txt.split _ _ => hln
 with_reducible rename ∀ _, _ ∈ _ → Str.length _ ≤ _ => hlen
 with_reducible rename _ = some _ => hy0
 with_reducible rename List (Str × Tok) => ll
 rw [hln] at hsa hlen hy0
 have hy0l := hlen _ (List.mem_of_getElem? hy0)
 have hsl : slicePick (strValues ll).toArray (some 1) none none = ((strValues ll).drop 1).toArray := by
  have := slicePick_from (strValues ll).toArray 1 (by rw [List.size_toArray, StrsAre.len_eq hsa]; exact split_pos _ _)
  simpa using this
 have hsd : StrsAre ((strValues ll).drop 1) ((Txt.split (Mine.mk x) (Str.ofString "=")).drop 1) := Mine.strs_drop1 hsa

 refine Mine.comp_list1 (σ := List Value × List (List Nat)) (fun c => c.1) (fun c => c.1.length) (fun _ => []) (fun i c => StrsAre c.1 (c.2.map Mine.mk) ∧ c.2 = ((Mine.partsL x).tail.take i).map Mine.roundPart) ([], []) (by assumption) (by assumption) rfl rfl rfl ?hP ?hcell rfl rfl ?turn ?done
 case hP => exact ⟨.nil, rfl⟩
 case hcell => decide
 case turn =>
  ((repeat ((with_reducible rename Fr g' L' _ _ => Fx9); clear Fx9)); (repeat ((with_reducible rename News g' L' _ _ => Nx9); clear Nx9)))
  intro D C I
  refine Mine.tq2 ?_
  intro us outs i v h tk oI oC mC hDC hDl hv hoI hP hNC F5 N5
  (try k_unmd); walk_at "f"
  have hD1 := hDl _ (List.mem_cons_self ..)
  have hD2 := hDl _ (List.mem_cons_of_mem _ (List.mem_cons_self ..))
  have hD3 := hDl _ (List.mem_cons_of_mem _ (List.mem_cons_of_mem _ (List.mem_cons_self ..)))
  have hD4 : ∀ p ∈ news, p.1 ≠ D := fun p hp => Nat.ne_of_lt (hDl p (List.mem_cons_of_mem _ (List.mem_cons_of_mem _ (List.mem_cons_of_mem _ hp))))
  (try dsimp only at hD1 hD2 hD3)
  clear hDl
  ((first | refine Mine.exE hP ?_ | refine Mine.anE hP ?_); intro hP1 hP2; clear hP)
  rw [hsl] at hv
  (refine Mine.foldG ?_; intro gk287; (first | refine Mine.exE (StrsAre.item hsd i v (by simpa using hv)) ?_ | refine Mine.anE (StrsAre.item hsd i v (by simpa using hv)) ?_); intro y zo284; (first | refine Mine.exE zo284 ?_ | refine Mine.anE zo284 ?_); intro ty zo285; clear zo284; (first | refine Mine.exE zo285 ?_ | refine Mine.anE zo285 ?_); intro zo286 hy; clear zo285; unfold gk287; clear gk287; subst zo286)
  have hyl : y.length ≤ 1000 := by
   have := hlen y (List.mem_of_mem_drop (List.mem_of_getElem? hy)); omega
  have hpi : (Mine.partsL x).tail[i]? = some y.cps.toList := by
   unfold Mine.partsL; rw [← List.drop_one, ← List.map_drop, List.getElem?_map, hy]; rfl
  obtain ⟨p9, rfl⟩ : ∃ p9, y = Mine.mk p9 := ⟨_, (Mine.mk_toList y).symm⟩
  rw [Mine.mk_list] at hpi
  rw [Mine.mk_length] at hyl
  have hml : (Mine.mk p9).length = p9.length := Mine.mk_length p9
  have hsn := Mine.take_snoc hpi
  have hus : us.length ≤ 1002 := by
   have q1 := StrsAre.len_eq hP1
   have q2 := Mine.partsL_len x
   (try dsimp only at q1 hP2)
   rw [List.length_map, hP2, List.length_map, List.length_take, List.length_tail] at q1
   omega
  clear hv hy hsa hsd hlen hy0 hln
  dsimp only [List.nil_append] at hP1 hP2 N5
  (try k_unmd); walk_at "f"
  by_cases hp1 : 1 < p9.length
  ·((first | refine Mine.exE (hok p9 (List.mem_of_getElem? hpi) hp1) ?_ | refine Mine.anE (hok p9 (List.mem_of_getElem? hpi) hp1) ?_); intro x1 x2)
   have y1 := Mine.hexVal_lt x1
   have y2 := Mine.hexVal_lt x2
   have hs2 := Mine.slice2 hp1
   walk_at "~"
   ((try dsimp only); (first | (with_reducible rename Fr g' L' _ _ => hF9) | rename Fr g' L' _ _ => hF9); (first | (with_reducible rename News g' L' _ _ => hN9) | rename News g' L' _ _ => hN9); (first | (with_reducible rename Mine.NsO _ _ => hS9) | rename Mine.NsO _ _ => hS9); refine Mine.cp_app (us := ?z104u) (v := ?z104v) (fun v9 => (us ++ [v9], outs ++ [Mine.roundPart p9])) hF9 hN9 hS9 ?z104d ?z104a ?z104b ?z104n ?z104i ?z104c ?z104o ?z104p; (case z104d => k_mem); (case z104a => rfl); (case z104b => simp); (case z104n => first | (k_whole; (walk_at "n"); done) | kst_in); (case z104i => k_mem); (case z104c => k_mem); (case z104o => first | exact (fun _ h => nomatch h) | simp [Mine.okOwn, Mine.isIter, Mine.iterNames, W.listOf]); (case z104p => (rw [Mine.rp_hex hp1 y1]; exact ⟨by dsimp only; rw [List.map_append]; exact Mine.strs_snoc hP1, by dsimp only; rw [hsn, List.map_append, ← hP2]; rfl⟩)))
  ·walk_at "~"
   ((try dsimp only); (first | (with_reducible rename Fr g' L' _ _ => hF9) | rename Fr g' L' _ _ => hF9); (first | (with_reducible rename News g' L' _ _ => hN9) | rename News g' L' _ _ => hN9); (first | (with_reducible rename Mine.NsO _ _ => hS9) | rename Mine.NsO _ _ => hS9); refine Mine.cp_app (us := ?z105u) (v := ?z105v) (fun v9 => (us ++ [v9], outs ++ [Mine.roundPart p9])) hF9 hN9 hS9 ?z105d ?z105a ?z105b ?z105n ?z105i ?z105c ?z105o ?z105p; (case z105d => k_mem); (case z105a => rfl); (case z105b => simp); (case z105n => first | (k_whole; (walk_at "n"); done) | kst_in); (case z105i => k_mem); (case z105c => k_mem); (case z105o => first | exact (fun _ h => nomatch h) | simp [Mine.okOwn, Mine.isIter, Mine.iterNames, W.listOf]); (case z105p => (rw [Mine.rp_one hp1]; exact ⟨by dsimp only; rw [List.map_append]; exact Mine.strs_snoc hP1, by dsimp only; rw [hsn, List.map_append, ← hP2]; rfl⟩)))
 case done =>
  ((repeat ((with_reducible rename Fr g' L' _ _ => Fx9); clear Fx9)); (repeat ((with_reducible rename News g' L' _ _ => Nx9); clear Nx9)))
  intro D
  refine Mine.tq2 ?_
  intro us outs h tk hP F5 N5
  (try k_unmd); walk_at "f"
  ((first | refine Mine.exE hP ?_ | refine Mine.anE hP ?_); intro hP1 hP2; clear hP)
  dsimp only [List.nil_append] at hP1 hP2 N5
  rw [hsl] at hP2
  have hlt : (List.drop 1 (strValues ll)).toArray.size = (Mine.partsL x).tail.length := by
   rw [List.size_toArray, StrsAre.len_eq hsd]; unfold Mine.partsL; simp
  rw [hlt, List.take_length] at hP2
  have hw := Mine.round_weight x hx
  rw [← hP2] at hw
  have hjl : (Txt.join (Str.ofString "") (outs.map Mine.mk)).length ≤ 1048576 := by
   have e1 : ∀ L : List (List Nat), (L.map Mine.mk).map (·.length) = L.map List.length := by intro L; rw [List.map_map]; exact List.map_congr_left fun a _ => Mine.mk_length a
   rw [Mine.join_empty, Mine.mk_length, List.length_flatten]; rw [e1] at hw; omega
  (try k_unmd); walk_at "f"
  walk_at "~"
  all_goals (refine hret _ [] _ _ ?_ (by k_asm) (by first | k_asm | (refine cb_drop (by with_reducible assumption) ?_; first | walk_at "n" | (intro p hp; simp only [List.nil_append] at hp; simp [hp]))))
  exact ⟨rfl, _, congrArg (Value.str · _) (Mine.round_eq hy0 hP2)⟩
end
end
section
section
set_option maxHeartbeats 8000000 in
theorem Mine.decode0_c (w : World) (e : List Nat) (t u : Tok) :
  Mine.Ctr w 57 10 100 [.str (Str.ofString "") t, .str (Mine.mk e) u] (fun _ => True) (fun r tl => tl = [] ∧ r = .str (Str.ofString "") t) := by
 k_with_none
 k_with "storeName" => (k_here; (with_reducible show wpAny _ _ (storeName _ _ _) _ _ _); k_dflt (refine' Mine.storeF ?Fw105 ?Nw105 ?_ ?aw105 ?bw105; (case Fw105 => k_asm); (case Nw105 => k_asm); (case aw105 => exact Eq.refl ScopeKind.function); (case bw105 => exact Eq.refl (some NameKind.local)); k_whole; intro h7s m7s F7s N7s; (try k_sweep)))
 k_with "eval Name" => (k_here; (with_reducible show wpAny _ _ (eval (Expr.Name _ _) _) _ _ _); k_dflt (refine' nameX_L ?Fw106 ?vw106 ?_ ?aw106 ?bw106; (case Fw106 => k_asm); (case aw106 => exact Eq.refl ScopeKind.function); (case bw106 => exact Eq.refl (some NameKind.local)); (case vw106 => exact Eq.refl (some _)); k_whole))
 (unfold Mine.Ctr; k_fill; intro p loose mean mg mb dp un gd cn cs a ccd cl outer A₀ base h₀ L m news s Q E B F X N T hk hpre hd hu hret; refine wpAny_call ?_; k_dflt (refine' code_def (binds := [(Str.ofString "encoded", Value.str (Str.ofString "") t), (Str.ofString "eol", Value.str (Mine.mk e) u)]) ?k1 ?k2 ?k3 ?k4 ?k5 ?kA ?kF ?kK ?k6 ?k7 ?k8 ?k9 ?kB ?_ ?c2 ?c3 ?c4 ?c5; (case kA => exact rfl); (case kF => exact rfl); (case kK => assumption); (case k1 => k_asm); (case k2 => k_asm); (case k3 => k_asm); (case k4 => k_asm); (case k5 => k_asm); (case k6 => k_is); (case k7 => k_is); (case k8 => ktr_room); (case k9 => exact binds_K (by k_in) rfl (by k_is) rfl rfl (by kernel_rfl)); (case c5 => decide); (case kB => exact locs rfl); (case c2 => exact rfl); (case c3 => exact rfl); (case c4 => exact rfl); k_whole; intro g' L' h' FG' F' N' B' X' T'; (try dsimp only); walk_at "f"))
 (replace F' : Fr g' L' h' (kstB (fun _ => none) [(Str.ofString "eol", Value.str (Mine.mk e) u), (Str.ofString "encoded", Value.str (Str.ofString "") t)]) := Mine.fr_args F' (by kernel_rfl); dsimp only [kstB] at F')
 walk_at "~"
 all_goals (refine hret _ [] _ _ ?_ (by k_asm) (by first | k_asm | (refine cb_drop (by with_reducible assumption) ?_; first | walk_at "n" | (intro p hp; simp only [List.nil_append] at hp; simp [hp]))))
 exact ⟨rfl, rfl⟩
end
end
section
namespace Mine
noncomputable def marks : List (List Nat) := [[60, 62], [10], [13, 10], [61, 61]]
theorem mark_at (i : Int) (h0 : 0 ≤ i) (h1 : i < 4) : ∃ e, e ∈ marks ∧ [Str.ofString "<>", Str.ofString "\n", Str.ofString "\x0d\n", Str.ofString "=="].getD i.toNat Str.empty = mk e := by
 obtain ⟨n, rfl⟩ : ∃ n : Nat, i = n := ⟨i.toNat, by omega⟩
 have key : ∀ n, n < 4 → [Str.ofString "<>", Str.ofString "\n", Str.ofString "\x0d\n", Str.ofString "=="].getD n Str.empty = mk (marks.getD n []) := by decide +kernel
 have hn : n < marks.length := by show n < 4; omega
 refine ⟨marks.getD n [], ?_, by rw [Int.toNat_natCast]; exact key n (by omega)⟩
 rw [getD_at _ _ _ hn]; exact List.getElem_mem hn
theorem brk_at (i : Int) (h0 : 0 ≤ i) (h1 : i < 7) : ∃ y : Nat, y ∈ breaks ∧ ([10, 11, 12, 13, 28, 29, 30] : List Int).getD i.toNat 0 = (y : Int) := by
 obtain ⟨n, rfl⟩ : ∃ n : Nat, i = n := ⟨i.toNat, by omega⟩
 have key : ∀ n, n < 7 → ([10, 11, 12, 13, 28, 29, 30] : List Int).getD n 0 = ((breaks.getD n 0 : Nat) : Int) := by decide +kernel
 have hn : n < breaks.length := by show n < 7; omega
 refine ⟨breaks.getD n 0, ?_, by rw [Int.toNat_natCast]; exact key n (by omega)⟩
 rw [getD_at _ _ _ hn]; exact List.getElem_mem hn
theorem rnd_len : ∀ (n : Nat) (x : List Nat), x.length ≤ n → (rnd x).length ≤ x.length
 | _, [], _ => by rw [rnd_nil]; exact Nat.le_refl _
 | n + 1, c :: r, h => by
  have hr : r.length ≤ n := by simp only [List.length_cons] at h; omega
  by_cases hc : c = 61
  ·subst hc
   match r, hr with
   | [], _ => rw [rnd_1]; exact Nat.le_refl _
   | [a], _ => rw [rnd_2]; exact Nat.le_refl _
   | a :: b :: r', hr =>
    by_cases hh : isHex a = true ∧ isHex b = true
    ·rw [rnd_hex _ hh.1 hh.2]
     have := rnd_len n r' (by simp only [List.length_cons] at hr; omega)
     simp only [List.length_cons]; omega
    ·rw [rnd_no _ hh]
     have := rnd_len n (a :: b :: r') hr
     simp only [List.length_cons] at this ⊢; omega
  ·rw [rnd_c _ hc]
   have := rnd_len n r hr
   simp only [List.length_cons]; omega
theorem page_mk (A B : List Nat) (y : Nat) : mk A ++ (Str.ofString "= \t\x1f" ++ ⟨#[((y : Nat) : Int).toNat]⟩ ++ Str.ofString "=\t\n") ++ mk B = mk (pageL A y B) := by
 rw [show Str.ofString "= \t\x1f" = mk [61, 32, 9, 31] from by decide +kernel, show Str.ofString "=\t\n" = mk [61, 9, 10] from by decide +kernel, Int.toNat_natCast, show (⟨#[y]⟩ : Str) = mk [y] from rfl, mk_append, mk_append, mk_append, mk_append]
 rfl
theorem crlf_at (i : Int) (h0 : 0 ≤ i) (h1 : i < 2) : ∃ z, (z = 13 ∨ z = 10) ∧ Txt.item (Str.ofString "\x0d\n") i = mk [z] := by
 obtain ⟨n, rfl⟩ : ∃ n : Nat, i = n := ⟨i.toNat, by omega⟩
 have key : ∀ n, n < 2 → Txt.item (Str.ofString "\x0d\n") ((n : Nat) : Int) = mk [[13, 10].getD n 0] := by decide +kernel
 have hn : n < 2 := by omega
 refine ⟨_, ?_, key n hn⟩
 obtain rfl | rfl : n = 0 ∨ n = 1 := by omega
 ·exact .inl rfl
 ·exact .inr rfl
theorem whole_mk (P e : List Nat) {z : Nat} {i : Int} (hz : Txt.item (Str.ofString "\x0d\n") i = mk [z]) : Str.ofString " _\t=G=4G" ++ mk P ++ Str.ofString "=4 \x0d\n\t" ++ Txt.item (Str.ofString "\x0d\n") i = mk (pre8 ++ P ++ [61, 52, 32, 13, 10, 9, z]) := by
 rw [hz, show Str.ofString " _\t=G=4G" = mk pre8 from by decide +kernel, show Str.ofString "=4 \x0d\n\t" = mk [61, 52, 32, 13, 10, 9] from by decide +kernel, mk_append, mk_append, mk_append]
 simp
theorem decode_v (w : World) {X E : Str} {x e v : List Nat} (hX : X = mk x) (hE : E = mk e) (hv : decodeT e x = v) (hx0 : x ≠ []) (he0 : e ≠ []) (hx : x.length ≤ 1000) (he : e.length ≤ 10) (t u : Tok) :
  Ctr w 57 10 100 [.str X t, .str E u] (fun _ => True) (fun r tl => tl = [] ∧ ∃ k, r = .str (mk v) k) := by
 subst hX hE hv
 exact decode_c w x e hx0 he0 hx he t u
theorem mark_two : ∀ e ∈ marks, Txt.mul (mk e) 2 = mk (e ++ e) := by decide +kernel
theorem due_mk (P : List Nat) {e : List Nat} (he : e ∈ marks) : (mk (pre8 ++ P ++ [61, 52] ++ (e ++ e)) != (Str.ofString " _\t=G=4G" ++ mk P ++ Str.ofString "=4" ++ mk (e ++ e))) = false := by
 rw [show Str.ofString " _\t=G=4G" = mk pre8 from by decide +kernel, show Str.ofString "=4" = mk [61, 52] from by decide +kernel, mk_append, mk_append, mk_append]
 simp
theorem tails_at (i : Int) (h0 : 0 ≤ i) (h1 : i < 3) : ∃ q : List Nat, (q = [] ∨ q = [12] ∨ q = [30]) ∧ [Str.ofString "", (⟨#[Int.toNat 12]⟩ : Str), ⟨#[Int.toNat 30]⟩].getD i.toNat Str.empty = mk q := by
 obtain ⟨n, rfl⟩ : ∃ n : Nat, i = n := ⟨i.toNat, by omega⟩
 rw [Int.toNat_natCast]
 obtain rfl | rfl | rfl : n = 0 ∨ n = 1 ∨ n = 2 := by omega
 ·exact ⟨[], .inl rfl, by decide +kernel⟩
 ·exact ⟨[12], .inr (.inl rfl), rfl⟩
 ·exact ⟨[30], .inr (.inr rfl), rfl⟩
theorem no_angle (t : Tree) {s : Nat} (hs : s < 256) : ¬ ([60, 62] : List Nat).isSuffixOf (flat s t) = true := by
 rw [List.isSuffixOf_iff_suffix]
 rintro ⟨l, h⟩
 cases t with
 | leaf =>
  have := congrArg List.length h
  simp [flat] at this
 | node a b c =>
  have hm : 62 ∈ flat s (.node a b c) := by rw [← h]; simp
  have := flat_AL (.node a b c) s hs (.inr (by intro h; cases h)) 62 hm
  exact absurd this (by decide)
theorem rnd_tree {t : Tree} {s : Nat} (hs : s < 256) (ht : t ≠ .leaf) : rnd (flat s t) = flat s (roundT t) := by
 have := rnd_flat t s [] hs (.inr ht)
 rw [List.append_nil, rnd_nil, List.append_nil] at this
 exact this
theorem size_round_le : ∀ t : Tree, size (roundT t) ≤ size t
 | .leaf => Nat.le_refl _
 | .node a b c => by
  by_cases h : a = .leaf ∧ b = .leaf ∧ c = .leaf
  ·obtain ⟨rfl, rfl, rfl⟩ := h; exact Nat.zero_le _
  ·rw [roundT_node h]
   have h1 := size_round_le a
   have h2 := size_round_le b
   have h3 := size_round_le c
   simp only [size]; omega
theorem size_round : ∀ {t : Tree}, t ≠ .leaf → size (roundT t) < size t
 | .leaf, h => absurd rfl h
 | .node a b c, _ => by
  by_cases h : a = .leaf ∧ b = .leaf ∧ c = .leaf
  ·obtain ⟨rfl, rfl, rfl⟩ := h; exact Nat.zero_lt_one
  ·rw [roundT_node h]
   have h1 := size_round_le a
   have h2 := size_round_le b
   have h3 := size_round_le c
   have key : size (roundT a) < size a ∨ size (roundT b) < size b ∨ size (roundT c) < size c := by
    by_cases ha : a = .leaf
    ·by_cases hb : b = .leaf
     ·exact .inr (.inr (size_round fun hc => h ⟨ha, hb, hc⟩))
     ·exact .inr (.inl (size_round hb))
    ·exact .inl (size_round ha)
   simp only [size]; omega
section
variable {prog : Program} {w : World} {A : Around} {E : Value → Shared → Prop} {s : Shared} {Q : Value → Shared → Prop}
theorem strOk_mk {l : List Nat} (h : ∀ c ∈ l, c < 256) : PyData.strOk (mk l) = true := by
 unfold PyData.strOk
 rw [show (mk l).cps = l.toArray from rfl, List.all_toArray, List.all_eq_true]
 intro c hc
 have := h c hc
 simp; omega
theorem rnd_lt : ∀ (n : Nat) (x : List Nat), x.length ≤ n → x.all HE = true → ∀ c ∈ rnd x, c < 256
 | _, [], _, _, c, hc => by rw [rnd_nil] at hc; cases hc
 | n + 1, a :: r, h, hx, c, hc => by
  have hr : r.length ≤ n := by simp only [List.length_cons] at h; omega
  rw [List.all_cons, Bool.and_eq_true] at hx
  have ha := HE_lt hx.1
  by_cases h61 : a = 61
  ·subst h61
   match r, hr, hx with
   | [], _, _ => rw [rnd_1] at hc; rw [List.mem_singleton.mp hc]; decide
   | [b], _, hx =>
    rw [rnd_2] at hc
    have hb := List.all_eq_true.mp hx.2 b (by simp)
    have := HE_lt hb
    simp only [List.mem_cons, List.not_mem_nil, or_false] at hc
    rcases hc with rfl | rfl <;> omega
   | b :: d :: r', hr, hx =>
    by_cases hh : isHex b = true ∧ isHex d = true
    ·rw [rnd_hex _ hh.1 hh.2] at hc
     have h1 := hexVal_lt hh.1
     have h2 := hexVal_lt hh.2
     rcases List.mem_cons.mp hc with rfl | hc
     ·omega
     ·exact rnd_lt n r' (by simp only [List.length_cons] at hr; omega) (by rw [List.all_cons, List.all_cons, Bool.and_eq_true, Bool.and_eq_true] at hx; exact hx.2.2.2) c hc
    ·rw [rnd_no _ hh] at hc
     rcases List.mem_cons.mp hc with rfl | hc
     ·decide
     ·exact rnd_lt n (b :: d :: r') hr hx.2 c hc
  ·rw [rnd_c _ h61] at hc
   rcases List.mem_cons.mp hc with rfl | hc
   ·omega
   ·exact rnd_lt n r hr hx.2 c hc
theorem ne_three {a b : Addr} {x y z : Str} {t1 t2 t3 u1 u2 u3 : Tok} (ha : s.heap.IsList a #[.str x t1, .str y t2, .str z t3]) (hb : s.heap.IsList b #[.str x u1, .str y u2, .str z u3]) (hx : PyData.strOk x = true) (hy : PyData.strOk y = true) (hz : PyData.strOk z = true) (hu : A.units + 64 < cLine) (h : Q (.bool false) s) :
  wpAny (model prog w) A (compareOp .NotEq (.ref a) (.ref b)) Q E s := by
 have hsh : PySem.SeqAt.shaped (.list [.str x, .str y, .str z]) = true := by simp [SeqAt.shaped, PyData.canLay0, PyData.canLayAll0, PyData.depth, PyData.depthAll, hx, hy, hz]
 refine ne_dataH (da := .list [.str x, .str y, .str z]) (db := .list [.str x, .str y, .str z]) (reads_newData ha (.cons (.str _ _) (.cons (.str _ _) (.cons (.str _ _) .nil)))) (reads_newData hb (.cons (.str _ _) (.cons (.str _ _) (.cons (.str _ _) .nil)))) hsh hsh hu ?_
 have : PyData.eqv (.list [.str x, .str y, .str z]) (.list [.str x, .str y, .str z]) = true := by simp [PyData.eqv, PyData.eqvAll]
 rw [this]
 exact h
end
theorem brk_lt : ∀ y ∈ breaks, y < 31 := by decide
theorem low_two {p : List Nat} (h : 1 < p.length) : Txt.lower (Txt.slice (mk p) none (some 2)) ++ Txt.slice (mk p) (some 2) none = mk (lowPart p) := by
 rw [show (some (2 : Int)) = some ((2 : Nat) : Int) from rfl, slice_nj, slice_in, ← mk_toList (Txt.lower (mk (p.take 2))), mk_append]
 unfold lowPart; rw [if_pos h]; rfl
theorem low_one {p : List Nat} (h : ¬ 1 < p.length) : mk p = mk (lowPart p) := by
 unfold lowPart; rw [if_neg h]
theorem small_weight {x : List Nat} (hx : x.all HE = true) (hl : x.length ≤ 1000) : (((((partsL x).map lowPart)).map mk).map (·.length)).sum + ((((partsL x).map lowPart)).map mk).length ≤ 1048576 := by
 have h := sum_len_join ((partsL x).map lowPart)
 have e1 : ∀ L : List (List Nat), (L.map mk).map (·.length) = L.map List.length := by intro L; rw [List.map_map]; exact List.map_congr_left fun a _ => mk_length a
 rw [e1, List.length_map]
 rcases h with h | h
 ·have := small_len hx
  unfold smallL at this
  rw [List.length_map] at h ⊢
  omega
 ·rw [h]; simp
theorem mark_len : ∀ e ∈ marks, e ≠ [] ∧ e.length ≤ 2 := by decide
end Mine
section
set_option maxHeartbeats 8000000 in
theorem Mine.agrees_c (w : World) (s9 : Nat) (hs9 : s9 < 256) (T9 : Mine.Tree) (hT9 : Mine.size T9 ≤ 5) (amount : Int) (t1 t2 : Tok) :
  Mine.Ctr w 157 30 400 [.str (Mine.mk (Mine.flat s9 T9)) t1, .int amount t2] (fun _ => True) (fun r tl => tl = [] ∧ r = .bool true) := by
 k_with_none
 k_with "storeName" => (k_here; (with_reducible show wpAny _ _ (storeName _ _ _) _ _ _); k_dflt (refine' Mine.storeF ?Fw107 ?Nw107 ?_ ?aw107 ?bw107; (case Fw107 => k_asm); (case Nw107 => k_asm); (case aw107 => exact Eq.refl ScopeKind.function); (case bw107 => exact Eq.refl (some NameKind.local)); k_whole; intro h7s m7s F7s N7s; (try k_sweep)))
 k_with "eval Name" => (k_here; (with_reducible show wpAny _ _ (eval (Expr.Name _ _) _) _ _ _); k_dflt (refine' nameX_L ?Fw108 ?vw108 ?_ ?aw108 ?bw108; (case Fw108 => k_asm); (case aw108 => exact Eq.refl ScopeKind.function); (case bw108 => exact Eq.refl (some NameKind.local)); (case vw108 => exact Eq.refl (some _)); k_whole))
 k_with "eval ListComp" => (k_here; k_dflt (refine' Mine.comp_eval ?_ ?c1w109 ?c2w109 ?c3w109; (case c1w109 => rfl); (case c2w109 => rfl); (case c3w109 => decide); k_whole))
 k_with "eval Name" => (k_here; (with_reducible show wpAny _ _ (eval (PySem.Expr.Name _ _) (compEnvC _ _ _ _)) _ _ _); k_dflt (first
 | (refine' Mine.cname_L ?k1w110 ?k2w110 ?k3w110 ?k4w110 ?_ ?k5w110 ?k6w110 ?k7w110; (case k6w110 => rfl); (case k5w110 => rfl); (case k7w110 => decide); (case k1w110 => k_asm); (case k3w110 => assumption); (case k2w110 => k_mem); (case k4w110 => exact rfl); k_whole)
 | (refine' Mine.cname_C ?k1w110 ?k2w110 ?k3w110 ?k4w110 ?_ ?k5w110 ?k6w110 ?k7w110; (case k6w110 => rfl); (case k5w110 => rfl); (case k7w110 => decide); (case k2w110 => rfl); (case k1w110 => k_asm); (case k3w110 => k_mem); (case k4w110 => k_asm); k_whole)
 | (refine' Mine.cname_G ?k1w110 ?k2w110 ?k3w110 ?k4w110 ?_ ?k5w110 ?k6w110 ?k7w110 ?k8w110; (case k7w110 => rfl); (case k6w110 => rfl); (case k5w110 => rfl); (case k8w110 => decide); (case k1w110 => k_asm); (case k2w110 => k_asm); (case k3w110 => k_asm); (case k4w110 => k_is); k_whole)
 | (refine' Mine.cname_B ?k1w110 ?k2w110 ?k3w110 ?k4w110 ?k5w110 ?k6w110 ?_ ?k7w110 ?k8w110 ?k9w110 ?k10w110 ?k11w110; (case k10w110 => rfl); (case k9w110 => rfl); (case k7w110 => rfl); (case k8w110 => rfl); (case k11w110 => decide); (case k1w110 => k_asm); (case k2w110 => k_asm); (case k3w110 => k_asm); (case k4w110 => k_is); (case k5w110 => boot_by_name); (case k6w110 => decide); k_whole)))
 k_with "call builtin:list.append" => (k_here; (with_reducible show wpAny _ _ (call (Value.builtin _) [Value.ref _, _]) _ _ _); k_dflt (refine' append_K ?k1w111 ?k2w111 ?k3w111 ?_ ?zw111; (case k1w111 => k_asm); (case k2w111 => k_asm); (case k3w111 => (first | (refine' Upd.head ?kh3w111; (case kh3w111 => (repeat' (first | (with_reducible assumption) | exact List.forall_mem_nil _ | (refine List.forall_mem_cons.mpr ⟨(by (first | (with_reducible assumption) | exact Nat.ne_of_lt (by with_reducible assumption) | exact Nat.ne_of_gt (by with_reducible assumption) | exact Ne.symm (by with_reducible assumption) | k_ne)), ?_⟩))))) | (refine' Upd.tail ?ka3w111 ?kb3w111; (case ka3w111 => (first | (with_reducible assumption) | exact Nat.ne_of_lt (by with_reducible assumption) | exact Nat.ne_of_gt (by with_reducible assumption) | exact Ne.symm (by with_reducible assumption) | k_ne)); (case kb3w111 => (first | (refine' Upd.head ?kh2w111; (case kh2w111 => (repeat' (first | (with_reducible assumption) | exact List.forall_mem_nil _ | (refine List.forall_mem_cons.mpr ⟨(by (first | (with_reducible assumption) | exact Nat.ne_of_lt (by with_reducible assumption) | exact Nat.ne_of_gt (by with_reducible assumption) | exact Ne.symm (by with_reducible assumption) | k_ne)), ?_⟩))))) | (refine' Upd.tail ?ka2w111 ?kb2w111; (case ka2w111 => (first | (with_reducible assumption) | exact Nat.ne_of_lt (by with_reducible assumption) | exact Nat.ne_of_gt (by with_reducible assumption) | exact Ne.symm (by with_reducible assumption) | k_ne)); (case kb2w111 => (first | (refine' Upd.head ?kh1w111; (case kh1w111 => (repeat' (first | (with_reducible assumption) | exact List.forall_mem_nil _ | (refine List.forall_mem_cons.mpr ⟨(by (first | (with_reducible assumption) | exact Nat.ne_of_lt (by with_reducible assumption) | exact Nat.ne_of_gt (by with_reducible assumption) | exact Ne.symm (by with_reducible assumption) | k_ne)), ?_⟩))))) | (refine' Upd.tail ?ka1w111 ?kb1w111; (case ka1w111 => (first | (with_reducible assumption) | exact Nat.ne_of_lt (by with_reducible assumption) | exact Nat.ne_of_gt (by with_reducible assumption) | exact Ne.symm (by with_reducible assumption) | k_ne)); (case kb1w111 => (fail))))))))))); (case zw111 => first | size_fits | (refine Nat.le_trans (m := 100000) (by simp only [List.size_toArray]; omega) (by decide))); k_whole); intro h' F' N')
 k_with "call builtin:str.join" => (k_here; (with_reducible show wpAny _ _ (call (Value.builtin "str.join") [Value.str _ _, Value.ref _]) _ _ _); k_dflt (refine' join_listW ?k1w112 ?k2w112 ?k3w112 ?k4w112 ?_; (case k1w112 => (refine' News.isList ?n1w112 ?n2w112; (case n1w112 => k_asm); (case n2w112 => k_mem))); (case k2w112 => assumption); (case k3w112 => decide); (case k4w112 => with_reducible assumption); k_whole); rw [hsj]; intro t9 k9; (try dsimp only))
 k_with "call builtin:str.join" => (k_here; (with_reducible show wpAny _ _ (call (Value.builtin "str.join") ([Value.str _ _] ++ [Value.ref _])) _ _ _); simp only [List.cons_append, List.nil_append])
 k_with "call ref" => (k_here; (with_reducible show wpAny _ _ (call (Value.ref 152) _) _ _ _); (first | rw [hqa] | rw [hqb] | skip); walk_at "f"; k_dflt (refine' Mine.round_c _ _ ?c1w114 ?c2w114 _ _ _ _ _ _ _ _ _ _ _ _ _ _ _ _ _ _ _ _ _ _ _ _ ?kBw114 ?kFw114 ?kXw114 ?kNw114 ?kTw114 ?kKw114 ?kPw114 ?kdw114 ?kuw114 ?_; (case kBw114 => k_asm); (case kFw114 => k_asm); (case kXw114 => k_asm); (case kNw114 => k_asm); (case kTw114 => k_asm); (case kKw114 => first | exact rfl | assumption); (case kPw114 => trivial); (case kdw114 => first | exact Mine.oDp (by with_reducible assumption) (by exact rfl) | exact Mine.oDq (by with_reducible assumption) (by exact rfl) | omega | ktr_room); (case kuw114 => first | exact Mine.oDp (by with_reducible assumption) (by exact rfl) | exact Mine.oDq (by with_reducible assumption) (by exact rfl) | omega | ktr_units); (case c1w114 => (first | omega)); (case c2w114 => first | exact hA2 | exact hB2 | exact hx2); k_whole); intro v9 tl9 h9 tk9 hp9 F9 N9; (try dsimp only at hp9); (((first | refine Mine.exE hp9 ?_ | refine Mine.anE hp9 ?_); intro e1 zo288; clear hp9; (first | refine Mine.exE zo288 ?_ | refine Mine.anE zo288 ?_); intro k9 e2; clear zo288); cases e1; cases e2; first | rw [hRA] | rw [hRB] | rw [hRX]); (try dsimp only [List.nil_append, List.cons_append] at N9); (try dsimp only); walk_at "f")
 k_with "binaryOp Mult str int" => (k_here; (with_reducible show wpAny _ _ (binaryOp Operator.Mult (Value.str _ _) (Value.int _ _)) _ _ _); refine SB.mul (mulOk_of 16 1048576 (by omega) (by omega) (by omega) (by decide) (by decide)) ?_; rw [hmul]; intro _ _)
 k_with "call ref" => (k_here; (with_reducible show wpAny _ _ (call (Value.ref 57) _) _ _ _); walk_at "f"; k_dflt (refine' Mine.decode0_c _ _ _ _ _ _ _ _ _ _ _ _ _ _ _ _ _ _ _ _ _ _ _ _ _ _ _ ?kBw116 ?kFw116 ?kXw116 ?kNw116 ?kTw116 ?kKw116 ?kPw116 ?kdw116 ?kuw116 ?_; (case kBw116 => k_asm); (case kFw116 => k_asm); (case kXw116 => k_asm); (case kNw116 => k_asm); (case kTw116 => k_asm); (case kKw116 => first | exact rfl | assumption); (case kPw116 => trivial); (case kdw116 => first | exact Mine.oDp (by with_reducible assumption) (by exact rfl) | exact Mine.oDq (by with_reducible assumption) (by exact rfl) | omega | ktr_room); (case kuw116 => first | exact Mine.oDp (by with_reducible assumption) (by exact rfl) | exact Mine.oDq (by with_reducible assumption) (by exact rfl) | omega | ktr_units);  k_whole); intro v9 tl9 h9 tk9 hp9 F9 N9; (try dsimp only at hp9); (((first | refine Mine.exE hp9 ?_ | refine Mine.anE hp9 ?_); intro e1 e2; clear hp9); cases e1; cases e2); (try dsimp only [List.nil_append, List.cons_append] at N9); (try dsimp only); walk_at "f")
 k_with "call ref" => (k_here; (with_reducible show wpAny _ _ (call (Value.ref 57) _) _ _ _); walk_at "f"; k_dflt (refine' Mine.decode_v _ ?c1w117 ?c2w117 ?c3w117 ?c4w117 ?c5w117 ?c6w117 ?c7w117 _ _ _ _ _ _ _ _ _ _ _ _ _ _ _ _ _ _ _ _ _ _ _ _ _ ?kBw117 ?kFw117 ?kXw117 ?kNw117 ?kTw117 ?kKw117 ?kPw117 ?kdw117 ?kuw117 ?_; (case kBw117 => k_asm); (case kFw117 => k_asm); (case kXw117 => k_asm); (case kNw117 => k_asm); (case kTw117 => k_asm); (case kKw117 => first | exact rfl | assumption); (case kPw117 => trivial); (case kdw117 => first | exact Mine.oDp (by with_reducible assumption) (by exact rfl) | exact Mine.oDq (by with_reducible assumption) (by exact rfl) | omega | ktr_room); (case kuw117 => first | exact Mine.oDp (by with_reducible assumption) (by exact rfl) | exact Mine.oDq (by with_reducible assumption) (by exact rfl) | omega | ktr_units); (case c1w117 => with_reducible assumption); (case c2w117 => first | with_reducible assumption | exact rfl); (case c3w117 => with_reducible assumption); (case c4w117 => with_reducible assumption); (case c5w117 => with_reducible assumption); (case c6w117 => with_reducible assumption); (case c7w117 => with_reducible assumption); k_whole); intro v9 tl9 h9 tk9 hp9 F9 N9; (try dsimp only at hp9); (((first | refine Mine.exE hp9 ?_ | refine Mine.anE hp9 ?_); intro e1 zo289; clear hp9; (first | refine Mine.exE zo289 ?_ | refine Mine.anE zo289 ?_); intro k9 e2; clear zo289); cases e1; cases e2); (try dsimp only [List.nil_append, List.cons_append] at N9); (try dsimp only); walk_at "f")
 k_with "call ref" => (k_here; (with_reducible show wpAny _ _ (call (Value.ref 57) _) _ _ _); have hgo9 := hgo2; clear hgo9; refine Mine.stop ?_)
 k_with "compareOp NotEq ref ref" => (k_here; (with_reducible show wpAny _ _ (compareOp _ (Value.ref _) (Value.ref _)) _ _ _); have hgo9 := hgo3; clear hgo9; refine Mine.stop ?_)
 k_with "exec If" => (k_here; have hgo9 := hgo; clear hgo9; refine Mine.stop ?_)
 k_with "pyIter ref" => (k_here; refine Mine.stop ?_)
 k_with "exec While Compare cons nil" => (k_here; refine Mine.stop ?_)
 k_with "subscriptTail" => (k_here; (with_reducible show wpAny _ _ (subscriptTail _ _ (Value.ref _) _) _ _ _); refine Mine.stop ?_)
 (unfold Mine.Ctr; k_fill; intro p loose mean mg mb dp un gd cn cs a ccd cl outer A₀ base h₀ L m news s Q E B F X N T hk hpre hd hu hret; refine wpAny_call ?_; k_dflt (refine' code_def (binds := [(Str.ofString "text", Value.str (Mine.mk (Mine.flat s9 T9)) t1), (Str.ofString "amount", Value.int amount t2)]) ?k1 ?k2 ?k3 ?k4 ?k5 ?kA ?kF ?kK ?k6 ?k7 ?k8 ?k9 ?kB ?_ ?c2 ?c3 ?c4 ?c5; (case kA => exact rfl); (case kF => exact rfl); (case kK => assumption); (case k1 => k_asm); (case k2 => k_asm); (case k3 => k_asm); (case k4 => k_asm); (case k5 => k_asm); (case k6 => k_is); (case k7 => k_is); (case k8 => ktr_room); (case k9 => first | exact BindsTo.of_eq (by kernel_rfl) | exact binds_K (by k_in) rfl (by k_is) rfl rfl rfl); (case c5 => decide); (case kB => exact locs rfl); (case c2 => exact rfl); (case c3 => exact rfl); (case c4 => exact rfl); k_whole; intro g' L' h' FG' F' N' B' X' T'; (try dsimp only); walk_at "f"))
 (replace F' : Fr g' L' h' (kstB (fun _ => none) [(Str.ofString "amount", Value.int amount t2), (Str.ofString "text", Value.str (Mine.mk (Mine.flat s9 T9)) t1)]) := Mine.fr_args F' rfl; dsimp only [kstB] at F'; simp only [List.length_cons, List.length_nil, Nat.zero_add]); (refine Mine.foldA ?_; intro ak)
 walk_at "~"
 unfold Mine.Stop
 (try k_unmd); (try dsimp only)
 have ha0 : 0 ≤ amount.fmod 4 := Int.fmod_nonneg_of_pos _ (by decide)
 have ha4 : amount.fmod 4 < 4 := Int.fmod_lt_of_pos _ (by decide)
 refine KTb.item_list (ws := [Str.ofString "<>", Str.ofString "\n", Str.ofString "\x0d\n", Str.ofString "=="]) (News.isList (by k_asm) (by k_mem)) (.cons _ _ (.cons _ _ (.cons _ _ (.cons _ _ .nil)))) ha0 ha4 (by omega) ?_
 intro t3 _
 ((first | refine Mine.exE (Mine.mark_at _ ha0 ha4) ?_ | refine Mine.anE (Mine.mark_at _ ha0 ha4) ?_); intro e zo290; (first | refine Mine.exE zo290 ?_ | refine Mine.anE zo290 ?_); intro he qe; clear zo290)
 rw [qe]
 clear qe ha0 ha4
 ((first | refine Mine.exE (Mine.mark_len e he) ?_ | refine Mine.anE (Mine.mark_len e he) ?_); intro he0 he2)
 walk_at "~"
 unfold Mine.Stop
 (try k_unmd); (try dsimp only)
 with_reducible rename News g' L' _ _ => hN1
 with_reducible rename Fr g' L' _ _ => hF1
 have hN2 := Mine.news_re (l' := news) hN1 (by (walk_at "n"))
 clear hN1
 refine Mine.while_c (σ := Mine.Tree × Int × Tok × Tok) (fun _ => news) (fun c => [(Str.ofString "now", .str (Mine.mk (Mine.flat s9 c.1)) c.2.2.1), (Str.ofString "turn", .int c.2.1 c.2.2.2)]) [Str.ofString "cut", Str.ofString "small", Str.ofString "soft", Str.ofString "page", Str.ofString "parted", Str.ofString "due"] (fun c => Mine.size c.1 ≤ 5) (fun c => Mine.size c.1) (T9, amount, t1, t2) hF1 hN2 ?hk hT9 ?turn
 case hk =>
  intro p hp
  rcases List.mem_cons.mp hp with rfl | hp
  ·rfl
  ·rcases List.mem_singleton.mp hp with rfl
   rfl
 case turn =>
  ((repeat ((with_reducible rename Fr g' L' _ _ => Fx9); clear Fx9)); (repeat ((with_reducible rename News g' L' _ _ => Nx9); clear Nx9)))
  refine Mine.tq4 ?_
  intro T tn k1 k2 u3 h3 tk3 hP F6 N6
  (try k_unmd); walk_at "f"
  (try dsimp only at hP)
  dsimp only [kstB] at F6
  (try dsimp only at N6)
  have hxl : (Mine.mk (Mine.flat s9 T)).length = 1 + 2 * Mine.size T := by rw [Mine.mk_length, Mine.flat_len]
  (try k_unmd); walk_at "f"
  by_cases hleaf : T = .leaf
  ·have hz : Mine.size T = 0 := by rw [hleaf]; rfl
   walk_at "~"
   with_reducible rename News h₀ L _ _ => hN9
   with_reducible rename Fr h₀ L _ _ => hF9
   exact hret _ [] _ _ ⟨rfl, congrArg Value.bool (beq_self_eq_true _)⟩ hF9 hN9
  ·(refine Mine.nameE (a := Mine.flat s9 T) ?_; intro x hx)
   (try dsimp +zetaDelta only at F6); rw [← hx] at F6 hxl
   have hxHE : x.all Mine.HE = true := by
    rw [List.all_eq_true, hx]; exact fun c hc => Mine.AL_HE (Mine.flat_AL T s9 hs9 (.inr hleaf) c hc)
   have hTn : 1 ≤ Mine.size T := by
    cases T with
    | leaf => exact absurd rfl hleaf
    | node a b c => show 1 ≤ Mine.size a + Mine.size b + Mine.size c + 1; omega
   have hxlen : x.length = 1 + 2 * Mine.size T := by rw [hx]; exact Mine.flat_len _ _
   have hcut0 : 0 ≤ (tn + 1).fmod (((Mine.mk x).length : Int) + 1) := Int.fmod_nonneg_of_pos _ (by omega)
   have hcut1 : (tn + 1).fmod (((Mine.mk x).length : Int) + 1) < ((Mine.mk x).length : Int) + 1 := Int.fmod_lt_of_pos _ (by omega)
   obtain ⟨cu, hcu⟩ : ∃ cu : Nat, (tn + 1).fmod (((Mine.mk x).length : Int) + 1) = (cu : Int) := ⟨((tn + 1).fmod (((Mine.mk x).length : Int) + 1)).toNat, by omega⟩
   rw [hcu] at hcut1
   clear hcut0
   walk_at "~"
   ·unfold Mine.Stop
    (try k_unmd); (try dsimp only)
    with_reducible rename StrsAre _ _ => hsa
    with_reducible rename List.map _ _ = Txt.split _ _ => hln
    with_reducible rename ∀ _, _ ∈ _ → Str.length _ ≤ _ => hlen
    with_reducible rename News g' L' _ _ => hN4
    with_reducible rename Fr g' L' _ _ => hF4
    with_reducible rename List (Str × Tok) => ll
    rw [hln] at hsa hlen
    dsimp +zetaDelta only at hF4
    rw [hcu] at hF4
    refine Mine.comp_list1 (σ := List Value × List (List Nat)) (fun c => c.1) (fun c => c.1.length) (fun _ => []) (fun i c => StrsAre c.1 (c.2.map Mine.mk) ∧ c.2 = ((Mine.partsL x).take i).map Mine.lowPart) ([], []) hF4 hN4 rfl rfl rfl ?hP ?hcell rfl rfl ?turn2 ?done2
    case hP => exact ⟨.nil, rfl⟩
    case hcell => decide
    case turn2 =>
     ((repeat ((with_reducible rename Fr g' L' _ _ => Fx9); clear Fx9)); (repeat ((with_reducible rename News g' L' _ _ => Nx9); clear Nx9)))
     intro D C I
     refine Mine.tq2 ?_
     intro us outs i v h tk oI oC mC hDC hDl hv hoI hP8 hNC F5 N5
     (try k_unmd); walk_at "f"
     have hD1 := hDl _ (List.mem_cons_self ..)
     have hD2 := hDl _ (List.mem_cons_of_mem _ (List.mem_cons_self ..))
     have hD4 : ∀ p ∈ news, p.1 ≠ D := fun p hp => Nat.ne_of_lt (hDl p (List.mem_cons_of_mem _ (List.mem_cons_of_mem _ hp)))
     (try dsimp only at hD1 hD2)
     clear hDl
     ((first | refine Mine.exE hP8 ?_ | refine Mine.anE hP8 ?_); intro hP1 hP2; clear hP8)
     (refine Mine.foldG ?_; intro gk294; (first | refine Mine.exE (StrsAre.item hsa i v (by simpa using hv)) ?_ | refine Mine.anE (StrsAre.item hsa i v (by simpa using hv)) ?_); intro y zo291; (first | refine Mine.exE zo291 ?_ | refine Mine.anE zo291 ?_); intro ty zo292; clear zo291; (first | refine Mine.exE zo292 ?_ | refine Mine.anE zo292 ?_); intro zo293 hy; clear zo292; unfold gk294; clear gk294; subst zo293)
     have hyl : y.length ≤ 1000 := by
      have := hlen y (List.mem_of_getElem? hy); omega
     have hpi : (Mine.partsL x)[i]? = some y.cps.toList := by
      unfold Mine.partsL; rw [List.getElem?_map, hy]; rfl
     obtain ⟨p9, rfl⟩ : ∃ p9, y = Mine.mk p9 := ⟨_, (Mine.mk_toList y).symm⟩
     rw [Mine.mk_list] at hpi
     rw [Mine.mk_length] at hyl
     have hml : (Mine.mk p9).length = p9.length := Mine.mk_length p9
     have hsn := Mine.take_snoc hpi
     have hus : us.length ≤ 1002 := by
      have q1 := StrsAre.len_eq hP1
      have q2 := Mine.partsL_len x
      (try dsimp only at q1 hP2)
      rw [List.length_map, hP2, List.length_map, List.length_take] at q1
      omega
     clear hv hy hsa hlen hln hcut1 hxHE hxl
     dsimp only [List.nil_append] at hP1 hP2 N5
     (try k_unmd); walk_at "f"
     by_cases hp1 : 1 < p9.length
     ·have hlw := Mine.low_two hp1
      walk_at "~"
      ((try dsimp only); (first | (with_reducible rename Fr g' L' _ _ => hF9) | rename Fr g' L' _ _ => hF9); (first | (with_reducible rename News g' L' _ _ => hN9) | rename News g' L' _ _ => hN9); (first | (with_reducible rename Mine.NsO _ _ => hS9) | rename Mine.NsO _ _ => hS9); refine Mine.cp_app (us := ?z110u) (v := ?z110v) (fun v9 => (us ++ [v9], outs ++ [Mine.lowPart p9])) hF9 hN9 hS9 ?z110d ?z110a ?z110b ?z110n ?z110i ?z110c ?z110o ?z110p; (case z110d => k_mem); (case z110a => rfl); (case z110b => simp); (case z110n => first | (k_whole; (walk_at "n"); done) | kst_in); (case z110i => k_mem); (case z110c => k_mem); (case z110o => first | exact (fun _ h => nomatch h) | simp [Mine.okOwn, Mine.isIter, Mine.iterNames, W.listOf]); (case z110p => (rw [hlw]; exact ⟨by dsimp only; rw [List.map_append]; exact Mine.strs_snoc hP1, by dsimp only; rw [hsn, List.map_append, ← hP2]; rfl⟩)))
     ·have hlw := Mine.low_one hp1
      walk_at "~"
      ((try dsimp only); (first | (with_reducible rename Fr g' L' _ _ => hF9) | rename Fr g' L' _ _ => hF9); (first | (with_reducible rename News g' L' _ _ => hN9) | rename News g' L' _ _ => hN9); (first | (with_reducible rename Mine.NsO _ _ => hS9) | rename Mine.NsO _ _ => hS9); refine Mine.cp_app (us := ?z111u) (v := ?z111v) (fun v9 => (us ++ [v9], outs ++ [Mine.lowPart p9])) hF9 hN9 hS9 ?z111d ?z111a ?z111b ?z111n ?z111i ?z111c ?z111o ?z111p; (case z111d => k_mem); (case z111a => rfl); (case z111b => simp); (case z111n => first | (k_whole; (walk_at "n"); done) | kst_in); (case z111i => k_mem); (case z111c => k_mem); (case z111o => first | exact (fun _ h => nomatch h) | simp [Mine.okOwn, Mine.isIter, Mine.iterNames, W.listOf]); (case z111p => (rw [hlw]; exact ⟨by dsimp only; rw [List.map_append]; exact Mine.strs_snoc hP1, by dsimp only; rw [hsn, List.map_append, ← hP2]; rfl⟩)))
    case done2 =>
     ((repeat ((with_reducible rename Fr g' L' _ _ => Fx9); clear Fx9)); (repeat ((with_reducible rename News g' L' _ _ => Nx9); clear Nx9)))
     intro D
     refine Mine.tq2 ?_
     intro us outs h tk hP8 F5 N5
     (try k_unmd); walk_at "f"
     ((first | refine Mine.exE hP8 ?_ | refine Mine.anE hP8 ?_); intro hP1 hP2; clear hP8)
     dsimp only [List.nil_append] at hP1 hP2 N5
     have hlt : (strValues ll).toArray.size = (Mine.partsL x).length := by
      rw [List.size_toArray, StrsAre.len_eq hsa]; unfold Mine.partsL; simp
     rw [hlt, List.take_length] at hP2
     have hw := Mine.small_weight hxHE (by omega)
     rw [← hP2] at hw
     have hsj : Txt.join (Str.ofString "=") (outs.map Mine.mk) = Mine.mk (Mine.smallL x) := by
      rw [Mine.txt_join, show Str.ofString "=" = Mine.mk [61] from by decide +kernel, Mine.join_mk, hP2]; rfl
     have hsm1 : (Mine.mk (Mine.smallL x)).length = x.length := by rw [Mine.mk_length, Mine.small_len hxHE]
     (refine Mine.nameE (a := Mine.smallL x) ?_; intro sm hsm)
     rw [← hsm] at hsj hsm1
     clear hcut1 hsa hlen hln
     (try k_unmd); walk_at "f"
     walk_at "~"
     unfold Mine.Stop
     (try k_unmd); (try dsimp only)
     have hb0 : 0 ≤ (tn + 1).fmod 7 := Int.fmod_nonneg_of_pos _ (by decide)
     have hb7 : (tn + 1).fmod 7 < 7 := Int.fmod_lt_of_pos _ (by decide)
     with_reducible rename News g' L' _ _ => hN6
     with_reducible rename Fr g' L' _ _ => hF6
     revert hF6 hN6
     ((repeat ((with_reducible rename Fr g' L' _ _ => Fx9); clear Fx9)); (repeat ((with_reducible rename News g' L' _ _ => Nx9); clear Nx9)))
     intro hF6 hN6
     refine item_anyK (ns := [10, 11, 12, 13, 28, 29, 30]) (News.isList (by k_asm) (by k_mem)) (.cons _ _ (.cons _ _ (.cons _ _ (.cons _ _ (.cons _ _ (.cons _ _ (.cons _ _ .nil))))))) hb0 hb7 (by omega) ?_
     intro t5
     ((first | refine Mine.exE (Mine.brk_at _ hb0 hb7) ?_ | refine Mine.anE (Mine.brk_at _ hb0 hb7) ?_); intro y zo295; (first | refine Mine.exE zo295 ?_ | refine Mine.anE zo295 ?_); intro hy qy; clear zo295)
     rw [qy]
     clear qy hb0 hb7
     have hy31 := Mine.brk_lt y hy
     (refine Mine.nameE (a := sm.take cu) ?_; intro A hA)
     (refine Mine.nameE (a := sm.drop cu) ?_; intro B hB)
     have hqa : Txt.slice (Mine.mk sm) none (some (cu : Int)) = Mine.mk A := by rw [Mine.slice_nj, hA]
     have hqb : Txt.slice (Mine.mk sm) (some (cu : Int)) none = Mine.mk B := by rw [Mine.slice_in, hB]
     have hsHE : sm.all Mine.HE = true := by rw [hsm]; exact Mine.small_all hxHE
     have hAHE : A.all Mine.HE = true := by rw [List.all_eq_true] at hsHE ⊢; rw [hA]; exact fun c hc => hsHE c (List.mem_of_mem_take hc)
     have hBHE : B.all Mine.HE = true := by rw [List.all_eq_true] at hsHE ⊢; rw [hB]; exact fun c hc => hsHE c (List.mem_of_mem_drop hc)
     have hsml : sm.length = x.length := by rw [hsm, Mine.small_len hxHE]
     have hA1 : A.length ≤ 400 := by rw [hA, List.length_take]; omega
     have hB1 : B.length ≤ 400 := by rw [hB, List.length_drop]; omega
     have hx1 : x.length ≤ 1000 := by omega
     have hA2 := Mine.roundOk_of hAHE
     have hB2 := Mine.roundOk_of hBHE
     have hx2 := Mine.roundOk_of hxHE
     obtain ⟨RA, hRA⟩ : ∃ R, Mine.roundL A = R := ⟨_, rfl⟩
     obtain ⟨RB, hRB⟩ : ∃ R, Mine.roundL B = R := ⟨_, rfl⟩
     obtain ⟨RX, hRX⟩ : ∃ R, Mine.roundL x = R := ⟨_, rfl⟩
     have hRA2 : RA = Mine.rnd A := by rw [← hRA, Mine.round_rnd hAHE]
     have hRB2 : RB = Mine.rnd B := by rw [← hRB, Mine.round_rnd hBHE]
     have hRX2 : RX = Mine.rnd x := by rw [← hRX, Mine.round_rnd hxHE]
     have hlA : (Mine.mk RA).length ≤ 1000 := by rw [Mine.mk_length, hRA2]; have := Mine.rnd_len _ A (Nat.le_refl _); omega
     have hlB : (Mine.mk RB).length ≤ 1000 := by rw [Mine.mk_length, hRB2]; have := Mine.rnd_len _ B (Nat.le_refl _); omega
     have hlX : (Mine.mk RX).length ≤ 1000 := by rw [Mine.mk_length, hRX2]; exact Nat.le_trans (Mine.rnd_len _ x (Nat.le_refl _)) hx1
     have hgo := trivial
     walk_at "~"
     unfold Mine.Stop
     (try k_unmd); (try dsimp only)
     with_reducible rename News g' L' _ _ => hN7
     with_reducible rename Fr g' L' _ _ => hF7
     replace hN7 := Mine.news_re (l' := news) hN7 (by (walk_at "n"))
     revert hF7 hN7
     ((repeat ((with_reducible rename Fr g' L' _ _ => Fx9); clear Fx9)); (repeat ((with_reducible rename News g' L' _ _ => Nx9); clear Nx9)))
     intro hF7 hN7
     ((repeat ((with_reducible rename (PySem.Str.length _ + PySem.Str.length _ ≤ _ ∧ _) => hz9); clear hz9)); (repeat ((with_reducible rename (PySem.Str.length _ + PySem.Str.length _ ≤ _) => hz9); clear hz9)); (repeat ((with_reducible rename (PySem.Str.length (Txt.slice _ _ _) ≤ _) => hz9); clear hz9)); (repeat ((with_reducible rename (_ ∧ AllLt _ _) => hz9); clear hz9)))
     clear hgo
     (try dsimp +zetaDelta only at hF7); (try rw [hqa] at hF7); (try rw [hqb] at hF7); rw [Mine.page_mk, Mine.mk_append RA RB] at hF7
     (refine Mine.nameE (a := Mine.pageL A y B) ?_; intro PG hPG)
     (refine Mine.nameE (a := RA ++ RB) ?_; intro PT hPT)
     rw [← hPG, ← hPT] at hF7
     have hPGl : (Mine.mk PG).length ≤ 900 := by rw [Mine.mk_length, hPG]; simp only [Mine.pageL, Mine.softL, List.length_append, List.length_cons, List.length_nil]; omega
     have hPTl : (Mine.mk PT).length ≤ 3000 := by rw [Mine.mk_length] at hlA hlB ⊢; rw [hPT, List.length_append]; omega
     clear hlA hlB hqa hqb hsHE hA2 hB2 hx2 hRA hRB hRX hsj hsm1 hcu
     have hm0 : 0 ≤ amount.fmod 2 := Int.fmod_nonneg_of_pos _ (by decide)
     have hm2 : amount.fmod 2 < 2 := Int.fmod_lt_of_pos _ (by decide)
     ((first | refine Mine.exE (Mine.crlf_at _ hm0 hm2) ?_ | refine Mine.anE (Mine.crlf_at _ hm0 hm2) ?_); intro z zo296; (first | refine Mine.exE zo296 ?_ | refine Mine.anE zo296 ?_); intro hz hzi; clear zo296)
     have hd1 := Mine.whole_mk PG e hzi
     have hv1 : Mine.decodeT e (Mine.pre8 ++ PG ++ [61, 52, 32, 13, 10, 9, z]) = Mine.pre8 ++ PT ++ [61, 52] ++ (e ++ e) := by
      rw [hPG, hPT, hRA2, hRB2]; exact Mine.dec_whole hAHE hBHE hy hz
     have hX10 : Mine.pre8 ++ PG ++ [61, 52, 32, 13, 10, 9, z] ≠ [] := by simp
     have hX1l : (Mine.pre8 ++ PG ++ [61, 52, 32, 13, 10, 9, z]).length ≤ 1000 := by
      rw [Mine.mk_length] at hPGl
      simp only [Mine.pre8, List.length_append, List.length_cons, List.length_nil]; omega
     generalize Mine.pre8 ++ PG ++ [61, 52, 32, 13, 10, 9, z] = X1 at hd1 hv1 hX10 hX1l
     have he10 : e.length ≤ 10 := by omega
     have hel : 1 ≤ (Mine.mk e).length ∧ (Mine.mk e).length ≤ 2 := by
      rw [Mine.mk_length]; have := List.length_pos_iff.mpr he0; omega
     have hmul := Mine.mark_two e he
     have hel2 : (Mine.mk (e ++ e)).length ≤ 4 := by rw [Mine.mk_length] at hel ⊢; rw [List.length_append]; omega
     have hn1 := Mine.due_mk PT he
     walk_at "~"
     unfold Mine.Stop
     (try k_unmd); (try dsimp only)
     with_reducible rename News g' L' _ _ => hN8
     with_reducible rename Fr g' L' _ _ => hF8
     revert hF8 hN8
     ((repeat ((with_reducible rename Fr g' L' _ _ => Fx9); clear Fx9)); (repeat ((with_reducible rename News g' L' _ _ => Nx9); clear Nx9)))
     intro hF8 hN8
     ((repeat ((with_reducible rename (PySem.Str.length _ + PySem.Str.length _ ≤ _ ∧ _) => hz9); clear hz9)); (repeat ((with_reducible rename (PySem.Str.length _ + PySem.Str.length _ ≤ _) => hz9); clear hz9)); (repeat ((with_reducible rename (PySem.Str.length (Txt.slice _ _ _) ≤ _) => hz9); clear hz9)); (repeat ((with_reducible rename (_ ∧ AllLt _ _) => hz9); clear hz9)))
     clear hn1 hd1 hv1 hX10 hX1l hmul hel hel2
     have hc0 : 0 ≤ (tn + 1).fmod 3 := Int.fmod_nonneg_of_pos _ (by decide)
     have hc3 : (tn + 1).fmod 3 < 3 := Int.fmod_lt_of_pos _ (by decide)
     refine KTb.item_list (ws := [Str.ofString "", (⟨#[Int.toNat 12]⟩ : Str), ⟨#[Int.toNat 30]⟩]) (News.isList (by k_asm) (by k_mem)) (.cons _ _ (.cons _ _ (.cons _ _ .nil))) hc0 hc3 (by omega) ?_
     intro t6 _
     ((first | refine Mine.exE (Mine.tails_at _ hc0 hc3) ?_ | refine Mine.anE (Mine.tails_at _ hc0 hc3) ?_); intro q zo297; (first | refine Mine.exE zo297 ?_ | refine Mine.anE zo297 ?_); intro hq qq; clear zo297)
     rw [qq]
     clear qq hc0 hc3
     have hd2 : Mine.mk PG ++ Mine.mk q = Mine.mk (PG ++ q) := Mine.mk_append _ _
     have hsm3 : sm.getLast? ≠ some 61 := by
      rw [hsm]
      (refine Mine.foldG ?_; intro gk300; (first | refine Mine.exE (Mine.flat_last T s9 hs9 (.inr hleaf)) ?_ | refine Mine.anE (Mine.flat_last T s9 hs9 (.inr hleaf)) ?_); intro l9 zo298; (first | refine Mine.exE zo298 ?_ | refine Mine.anE zo298 ?_); intro c9 zo299; clear zo298; (first | refine Mine.exE zo299 ?_ | refine Mine.anE zo299 ?_); intro e9 hc9; clear zo299; unfold gk300; clear gk300)
      exact Mine.small_last hxHE (by rw [hx, e9, List.getLast?_append]; simp; exact hc9)
     have hBl : B.getLast? ≠ some 61 := by
      by_cases hB0 : B = []
      ·rw [hB0]; simp
      ·rw [hB, List.getLast?_drop, if_neg (by intro h; apply hB0; rw [hB]; exact List.drop_eq_nil_of_le h)]; exact hsm3
     have hv2 : Mine.decodeT [60, 62] (PG ++ q) = PT := by
      rw [hPG, hPT, hRA2, hRB2]; exact Mine.dec_page hAHE hBHE hBl hy hq rfl
     have hX20 : PG ++ q ≠ [] := by rw [hPG]; simp [Mine.pageL, Mine.softL]
     have hql : q.length ≤ 1 := by rcases hq with rfl | rfl | rfl <;> simp
     have hql2 : (Mine.mk q).length ≤ 1 := by rw [Mine.mk_length]; exact hql
     have hX2l : (PG ++ q).length ≤ 1000 := by rw [Mine.mk_length] at hPGl; rw [List.length_append]; omega
     generalize PG ++ q = X2 at hd2 hv2 hX20 hX2l
     have h60 : Str.ofString "<>" = Mine.mk [60, 62] := by decide +kernel
     have h600 : ([60, 62] : List Nat) ≠ [] := by simp
     have h6010 : ([60, 62] : List Nat).length ≤ 10 := by simp
     have hRT : RX = Mine.flat s9 (Mine.roundT T) := by rw [hRX2, hx]; exact Mine.rnd_tree hs9 hleaf
     have hRX0 : RX ≠ [] := by rw [hRT]; exact Mine.flat_ne _ _
     obtain ⟨d0, c0, hdc⟩ : ∃ d0 c0, RX = d0 ++ [c0] := ⟨RX.dropLast, RX.getLast hRX0, (List.dropLast_concat_getLast hRX0).symm⟩
     have hd3 : Mine.mk x ++ Str.ofString "= " = Mine.mk (x ++ [61, 32]) := by
      rw [show Str.ofString "= " = Mine.mk [61, 32] from by decide +kernel, Mine.mk_append]
     have hv3 : Mine.decodeT [60, 62] (x ++ [61, 32]) = RX := by
      rw [hRX2]; exact Mine.dec_soft_no hxHE (by rw [← hRX2, hRT]; exact Mine.no_angle _ hs9)
     have hv4 : Mine.decodeT [c0] (x ++ [61, 32]) = d0 := Mine.dec_soft_cut hxHE (by rw [← hRX2]; exact hdc)
     have hX30 : x ++ [61, 32] ≠ [] := by simp
     have hX3l : (x ++ [61, 32]).length ≤ 1000 := by rw [List.length_append]; simp; omega
     generalize x ++ [61, 32] = X3 at hd3 hv3 hv4 hX30 hX3l
     have h4i : Txt.item (Mine.mk RX) (-1) = Mine.mk [c0] := by rw [Mine.item_last RX hRX0]; simp [hdc]
     have h4s : Txt.slice (Mine.mk RX) none (some (-1)) = Mine.mk d0 := by
      have := Mine.slice_to_neg RX 1 (by decide) (List.length_pos_iff.mpr hRX0)
      rw [show (-((1 : Nat) : Int)) = -1 from rfl] at this
      rw [this, hdc]; simp
     have hc00 : [c0] ≠ [] := by simp
     have hc010 : [c0].length ≤ 10 := by simp
     have hRXl : 1 ≤ (Mine.mk RX).length := by rw [Mine.mk_length]; exact List.length_pos_iff.mpr hRX0
     have hd0l : (Mine.mk d0).length ≤ 1000 := by rw [Mine.mk_length] at hlX ⊢; rw [hdc, List.length_append] at hlX; omega
     have hoPT : PyData.strOk (Mine.mk PT) = true := by
      refine Mine.strOk_mk fun c hc => ?_
      rw [hPT, hRA2, hRB2] at hc
      rcases List.mem_append.mp hc with hc | hc
      ·exact Mine.rnd_lt _ A (Nat.le_refl _) hAHE c hc
      ·exact Mine.rnd_lt _ B (Nat.le_refl _) hBHE c hc
     have hoRX : PyData.strOk (Mine.mk RX) = true := Mine.strOk_mk fun c hc => Mine.flat_lt (Mine.roundT T) s9 hs9 c (hRT ▸ hc)
     have hod0 : PyData.strOk (Mine.mk d0) = true := Mine.strOk_mk fun c hc => Mine.flat_lt (Mine.roundT T) s9 hs9 c (hRT ▸ (by rw [hdc]; exact List.mem_append.mpr (.inl hc)))
     have hgo2 := trivial
     clear hAHE hBHE hBl hy hq hsm3 hRA2 hRB2 hsml hA1 hB1 hA hB
     walk_at "~"
     unfold Mine.Stop
     (try k_unmd); (try dsimp only)
     walk_at "f"; k_dflt (refine' Mine.decode_v _ ?c1 ?c2 ?c3 ?c4 ?c5 ?c6 ?c7 _ _ _ _ _ _ _ _ _ _ _ _ _ _ _ _ _ _ _ _ _ _ _ _ _ ?kB ?kF ?kX ?kN ?kT ?kK ?kP ?kd ?ku ?_; (case kB => k_asm); (case kF => k_asm); (case kX => k_asm); (case kN => k_asm); (case kT => k_asm); (case kK => first | exact rfl | assumption); (case kP => trivial); (case kd => first | exact Mine.oDp (by with_reducible assumption) (by exact rfl) | exact Mine.oDq (by with_reducible assumption) (by exact rfl) | omega | ktr_room); (case ku => first | exact Mine.oDp (by with_reducible assumption) (by exact rfl) | exact Mine.oDq (by with_reducible assumption) (by exact rfl) | omega | ktr_units); (case c1 => with_reducible assumption); (case c2 => first | with_reducible assumption | exact rfl); (case c3 => with_reducible assumption); (case c4 => with_reducible assumption); (case c5 => with_reducible assumption); (case c6 => with_reducible assumption); (case c7 => with_reducible assumption); k_whole); intro v9 tl9 h9 tk9 hp9 F9 N9; (try dsimp only at hp9); (((first | refine Mine.exE hp9 ?_ | refine Mine.anE hp9 ?_); intro e1 zo301; clear hp9; (first | refine Mine.exE zo301 ?_ | refine Mine.anE zo301 ?_); intro k9 e2; clear zo301); cases e1; cases e2); (try dsimp only [List.nil_append, List.cons_append] at N9); (try dsimp only); walk_at "f"
     walk_at "~"
     unfold Mine.Stop
     (try k_unmd); (try dsimp only)
     walk_at "f"; k_dflt (refine' Mine.decode_v _ ?c1 ?c2 ?c3 ?c4 ?c5 ?c6 ?c7 _ _ _ _ _ _ _ _ _ _ _ _ _ _ _ _ _ _ _ _ _ _ _ _ _ ?kB ?kF ?kX ?kN ?kT ?kK ?kP ?kd ?ku ?_; (case kB => k_asm); (case kF => k_asm); (case kX => k_asm); (case kN => k_asm); (case kT => k_asm); (case kK => first | exact rfl | assumption); (case kP => trivial); (case kd => first | exact Mine.oDp (by with_reducible assumption) (by exact rfl) | exact Mine.oDq (by with_reducible assumption) (by exact rfl) | omega | ktr_room); (case ku => first | exact Mine.oDp (by with_reducible assumption) (by exact rfl) | exact Mine.oDq (by with_reducible assumption) (by exact rfl) | omega | ktr_units); (case c1 => with_reducible assumption); (case c2 => first | with_reducible assumption | exact rfl); (case c3 => with_reducible assumption); (case c4 => with_reducible assumption); (case c5 => with_reducible assumption); (case c6 => with_reducible assumption); (case c7 => with_reducible assumption); k_whole); intro v9 tl9 h9 tk9 hp9 F9 N9; (try dsimp only at hp9); (((first | refine Mine.exE hp9 ?_ | refine Mine.anE hp9 ?_); intro e1 zo302; clear hp9; (first | refine Mine.exE zo302 ?_ | refine Mine.anE zo302 ?_); intro k9 e2; clear zo302); cases e1; cases e2); (try dsimp only [List.nil_append, List.cons_append] at N9); (try dsimp only); walk_at "f"
     walk_at "~"
     unfold Mine.Stop
     (try k_unmd); (try dsimp only)
     walk_at "f"; k_dflt (refine' Mine.decode_v _ ?c1 ?c2 ?c3 ?c4 ?c5 ?c6 ?c7 _ _ _ _ _ _ _ _ _ _ _ _ _ _ _ _ _ _ _ _ _ _ _ _ _ ?kB ?kF ?kX ?kN ?kT ?kK ?kP ?kd ?ku ?_; (case kB => k_asm); (case kF => k_asm); (case kX => k_asm); (case kN => k_asm); (case kT => k_asm); (case kK => first | exact rfl | assumption); (case kP => trivial); (case kd => first | exact Mine.oDp (by with_reducible assumption) (by exact rfl) | exact Mine.oDq (by with_reducible assumption) (by exact rfl) | omega | ktr_room); (case ku => first | exact Mine.oDp (by with_reducible assumption) (by exact rfl) | exact Mine.oDq (by with_reducible assumption) (by exact rfl) | omega | ktr_units); (case c1 => with_reducible assumption); (case c2 => first | with_reducible assumption | exact rfl); (case c3 => with_reducible assumption); (case c4 => with_reducible assumption); (case c5 => with_reducible assumption); (case c6 => with_reducible assumption); (case c7 => with_reducible assumption); k_whole); intro v9 tl9 h9 tk9 hp9 F9 N9; (try dsimp only at hp9); (((first | refine Mine.exE hp9 ?_ | refine Mine.anE hp9 ?_); intro e1 zo303; clear hp9; (first | refine Mine.exE zo303 ?_ | refine Mine.anE zo303 ?_); intro k9 e2; clear zo303); cases e1; cases e2); (try dsimp only [List.nil_append, List.cons_append] at N9); (try dsimp only); walk_at "f"
     revert F9 N9
     ((repeat ((with_reducible rename Fr g' L' _ _ => Fx9); clear Fx9)); (repeat ((with_reducible rename News g' L' _ _ => Nx9); clear Nx9)))
     intro F9 N9
     ((repeat ((with_reducible rename (PySem.Str.length _ + PySem.Str.length _ ≤ _ ∧ _) => hz9); clear hz9)); (repeat ((with_reducible rename (PySem.Str.length _ + PySem.Str.length _ ≤ _) => hz9); clear hz9)); (repeat ((with_reducible rename (PySem.Str.length (Txt.slice _ _ _) ≤ _) => hz9); clear hz9)); (repeat ((with_reducible rename (_ ∧ AllLt _ _) => hz9); clear hz9)))
     clear hgo2 h60 hd2 hd3 hv2 hv3 hv4 hX20 hX2l hX30 hX3l h600 h6010 hdc hql hc00 hc010 hRX0 h4i
     have hgo3 := trivial
     walk_at "~"
     unfold Mine.Stop
     (try k_unmd); (try dsimp only)
     with_reducible rename News g' L' _ _ => hNc
     with_reducible rename Fr g' L' _ _ => hFc
     rw [h4s] at hNc
     refine Mine.ne_three (News.isList hNc (List.mem_cons_of_mem _ (List.mem_cons_self ..))) (News.isList hNc (List.mem_cons_self ..)) hoPT hoRX hod0 (by show un + 3 + 64 < cLine; ktr_units) ?_
     have hNd : News g' L' _ news := fun p hp => hNc p (List.mem_cons_of_mem _ (List.mem_cons_of_mem _ (List.mem_cons_of_mem _ hp)))
     rw [hRT] at hFc
     revert hFc hNd
     ((repeat ((with_reducible rename Fr g' L' _ _ => Fx9); clear Fx9)); (repeat ((with_reducible rename News g' L' _ _ => Nx9); clear Nx9)))
     intro hFc hNd
     clear hgo3 h4s
     ((repeat ((with_reducible rename (PySem.Str.length _ + PySem.Str.length _ ≤ _ ∧ _) => hz9); clear hz9)); (repeat ((with_reducible rename (PySem.Str.length _ + PySem.Str.length _ ≤ _) => hz9); clear hz9)); (repeat ((with_reducible rename (PySem.Str.length (Txt.slice _ _ _) ≤ _) => hz9); clear hz9)); (repeat ((with_reducible rename (_ ∧ AllLt _ _) => hz9); clear hz9)))
     have hsz := Mine.size_round hleaf
     walk_at "~"
     ((first | (with_reducible rename Fr g' L' _ _ => hF9) | rename Fr g' L' _ _ => hF9); (first | (with_reducible rename News g' L' _ _ => hN9) | rename News g' L' _ _ => hN9); refine Mine.wl_end (Mine.roundT T, tn + 1, ?z112u, ?z112v) hF9 hN9 (fun _ h => h) ?z112k ?z112r ?z112p ?z112m; (case z112k => walk_at "h"); (case z112r => walk_at "o"); (case z112m => (dsimp only; omega)); (case z112p => exact Nat.le_trans (Nat.le_of_lt (Mine.size_round hleaf)) hP))
   all_goals (exfalso; omega)
end
end
section
theorem Mine.one_ent {es : List Mine.Ent} {q : Nat × Nat × Nat × Nat} (h : Mine.absE es = [q]) : ∃ T c d t1 t2 t3 t4, es = [(T, c, d, t1, t2, t3, t4)] := by
 match es, h with
 | [(T, c, d, t1, t2, t3, t4)], _ => exact ⟨T, c, d, t1, t2, t3, t4, rfl⟩
theorem Mine.ents3 {P : List Mine.Ent → Prop} (h : ∀ T3 c3 a3 n3 p3 t31 t32 t33 t34 T2 c2 a2 n2 p2 t21 t22 t23 t24 T1 c1 a1 n1 p1 t11 t12 t13 t14 r, P ((T3, c3, (a3, n3, p3), t31, t32, t33, t34) :: (T2, c2, (a2, n2, p2), t21, t22, t23, t24) :: (T1, c1, (a1, n1, p1), t11, t12, t13, t14) :: r)) : ∀ es : List Mine.Ent, ¬ es.length < 3 → P es
 | [], k => absurd (by simp) k
 | [_], k => absurd (by simp) k
 | [_, _], k => absurd (by simp) k
 | (_, _, (_, _, _), _, _, _, _) :: (_, _, (_, _, _), _, _, _, _) :: (_, _, (_, _, _), _, _, _, _) :: _, _ => h ..
section
set_option maxHeartbeats 8000000 in
theorem Mine.read_c (w : World) (D : Addr) (vs : List Value) (nn : Nat) (hvs : IntsAre vs ((Mine.cnts 5).map fun (d : Nat) => ((d : Nat) : Int))) (s9 : Nat) (hs9 : s9 < 256) (T9 : Mine.Tree) (hT9 : Mine.size T9 ≤ 5) (t1 : Tok) :
  Mine.CtrN w 140 30 400 [.str (Mine.mk (Mine.flat s9 T9)) t1, .ref D] (fun l => (D, W.listOf vs.toArray nn) ∈ l) (fun r tl => ∃ T u1 u2 u3 u4, r = .ref T ∧ tl = [Mine.entO (T, s9, Mine.rankT T9, u1, u2, u3, u4)]) := by
 k_with_none
 k_with "storeName" => (k_here; (with_reducible show wpAny _ _ (storeName _ _ _) _ _ _); k_dflt (refine' Mine.storeF ?Fw124 ?Nw124 ?_ ?aw124 ?bw124; (case Fw124 => k_asm); (case Nw124 => k_asm); (case aw124 => exact Eq.refl ScopeKind.function); (case bw124 => exact Eq.refl (some NameKind.local)); k_whole; intro h7s m7s F7s N7s; (try k_sweep)))
 k_with "eval Name" => (k_here; (with_reducible show wpAny _ _ (eval (Expr.Name _ _) _) _ _ _); k_dflt (refine' nameX_L ?Fw125 ?vw125 ?_ ?aw125 ?bw125; (case Fw125 => k_asm); (case aw125 => exact Eq.refl ScopeKind.function); (case bw125 => exact Eq.refl (some NameKind.local)); (case vw125 => exact Eq.refl (some _)); k_whole))
 k_with "eval ListComp" => (k_here; k_dflt (refine' Mine.comp_eval ?_ ?c1w126 ?c2w126 ?c3w126; (case c1w126 => rfl); (case c2w126 => rfl); (case c3w126 => decide); k_whole))
 k_with "eval Name" => (k_here; (with_reducible show wpAny _ _ (eval (PySem.Expr.Name _ _) (compEnvC _ _ _ _)) _ _ _); k_dflt (first
 | (refine' Mine.cname_L ?k1w127 ?k2w127 ?k3w127 ?k4w127 ?_ ?k5w127 ?k6w127 ?k7w127; (case k6w127 => rfl); (case k5w127 => rfl); (case k7w127 => decide); (case k1w127 => k_asm); (case k3w127 => assumption); (case k2w127 => k_mem); (case k4w127 => exact rfl); k_whole)
 | (refine' Mine.cname_C ?k1w127 ?k2w127 ?k3w127 ?k4w127 ?_ ?k5w127 ?k6w127 ?k7w127; (case k6w127 => rfl); (case k5w127 => rfl); (case k7w127 => decide); (case k2w127 => rfl); (case k1w127 => k_asm); (case k3w127 => k_mem); (case k4w127 => k_asm); k_whole)
 | (refine' Mine.cname_G ?k1w127 ?k2w127 ?k3w127 ?k4w127 ?_ ?k5w127 ?k6w127 ?k7w127 ?k8w127; (case k7w127 => rfl); (case k6w127 => rfl); (case k5w127 => rfl); (case k8w127 => decide); (case k1w127 => k_asm); (case k2w127 => k_asm); (case k3w127 => k_asm); (case k4w127 => k_is); k_whole)
 | (refine' Mine.cname_B ?k1w127 ?k2w127 ?k3w127 ?k4w127 ?k5w127 ?k6w127 ?_ ?k7w127 ?k8w127 ?k9w127 ?k10w127 ?k11w127; (case k10w127 => rfl); (case k9w127 => rfl); (case k7w127 => rfl); (case k8w127 => rfl); (case k11w127 => decide); (case k1w127 => k_asm); (case k2w127 => k_asm); (case k3w127 => k_asm); (case k4w127 => k_is); (case k5w127 => boot_by_name); (case k6w127 => decide); k_whole)))
 k_with "call builtin:list.append" => (k_here; (with_reducible show wpAny _ _ (call (Value.builtin _) [Value.ref _, _]) _ _ _); k_dflt (refine' append_K ?k1w128 ?k2w128 ?k3w128 ?_ ?zw128; (case k1w128 => k_asm); (case k2w128 => k_asm); (case k3w128 => (first | (refine' Upd.head ?kh3w128; (case kh3w128 => (repeat' (first | (with_reducible assumption) | exact List.forall_mem_nil _ | (refine List.forall_mem_cons.mpr ⟨(by (first | (with_reducible assumption) | exact Nat.ne_of_lt (by with_reducible assumption) | exact Nat.ne_of_gt (by with_reducible assumption) | exact Ne.symm (by with_reducible assumption) | k_ne)), ?_⟩))))) | (refine' Upd.tail ?ka3w128 ?kb3w128; (case ka3w128 => (first | (with_reducible assumption) | exact Nat.ne_of_lt (by with_reducible assumption) | exact Nat.ne_of_gt (by with_reducible assumption) | exact Ne.symm (by with_reducible assumption) | k_ne)); (case kb3w128 => (first | (refine' Upd.head ?kh2w128; (case kh2w128 => (repeat' (first | (with_reducible assumption) | exact List.forall_mem_nil _ | (refine List.forall_mem_cons.mpr ⟨(by (first | (with_reducible assumption) | exact Nat.ne_of_lt (by with_reducible assumption) | exact Nat.ne_of_gt (by with_reducible assumption) | exact Ne.symm (by with_reducible assumption) | k_ne)), ?_⟩))))) | (refine' Upd.tail ?ka2w128 ?kb2w128; (case ka2w128 => (first | (with_reducible assumption) | exact Nat.ne_of_lt (by with_reducible assumption) | exact Nat.ne_of_gt (by with_reducible assumption) | exact Ne.symm (by with_reducible assumption) | k_ne)); (case kb2w128 => (first | (refine' Upd.head ?kh1w128; (case kh1w128 => (repeat' (first | (with_reducible assumption) | exact List.forall_mem_nil _ | (refine List.forall_mem_cons.mpr ⟨(by (first | (with_reducible assumption) | exact Nat.ne_of_lt (by with_reducible assumption) | exact Nat.ne_of_gt (by with_reducible assumption) | exact Ne.symm (by with_reducible assumption) | k_ne)), ?_⟩))))) | (refine' Upd.tail ?ka1w128 ?kb1w128; (case ka1w128 => (first | (with_reducible assumption) | exact Nat.ne_of_lt (by with_reducible assumption) | exact Nat.ne_of_gt (by with_reducible assumption) | exact Ne.symm (by with_reducible assumption) | k_ne)); (case kb1w128 => (fail))))))))))); (case zw128 => first | size_fits | (refine Nat.le_trans (m := 100000) (by simp only [List.size_toArray]; omega) (by decide))); k_whole); intro h' F' N')
 k_with "eval ListComp" => (k_here; k_dflt (refine' Mine.gen_eval ?_ ?c1w129 ?c2w129 ?c3w129; (case c1w129 => rfl); (case c2w129 => rfl); (case c3w129 => decide); k_whole))
 k_with "pyIter ref" => (k_here; refine Mine.stop ?_)
 k_with "exec For Name Name cons nil" => (k_here; (rename Fr _ _ _ _ => lF'); (with_unfolding_all refine' For_invVF lF' ?k1w131 ?k2w131 ?_; (case k1w131 => exact rfl); (case k2w131 => exact rfl); k_whole))
 k_with "call builtin:len" => (k_here; (with_reducible show wpAny _ _ (call (Value.builtin "len") [Value.ref _]) _ _ _); k_dflt (refine' Mine.len_us ?k1w132 ?k2w132 ?k3w132 ?_; (case k1w132 => (refine' News.isList ?n1w132 ?n2w132; (case n1w132 => k_asm); (case n2w132 => k_mem))); (case k2w132 => with_reducible assumption); (case k3w132 => omega); k_whole))
 k_with "subscriptTail" => (k_here; (with_reducible show wpAny _ _ (subscriptTail _ _ (Value.ref _) (Value.int (-3) _)) _ _ _); k_dflt (refine' Mine.item_n3 (xs := xs) (a := Value.ref T1) (b := Value.ref T2) (c := Value.ref T3) ?k1w133 ?_ ?k6w133; (case k1w133 => (refine' News.isList ?n1w133 ?n2w133; (case n1w133 => k_asm); (case n2w133 => k_mem))); (case k6w133 => with_unfolding_all rfl); k_whole))
 k_with "subscriptTail" => (k_here; (with_reducible show wpAny _ _ (subscriptTail _ _ (Value.ref _) (Value.int (-2) _)) _ _ _); k_dflt (refine' Mine.item_n2 (xs := xs) (a := Value.ref T1) (b := Value.ref T2) (c := Value.ref T3) ?k1w134 ?_ ?k6w134; (case k1w134 => (refine' News.isList ?n1w134 ?n2w134; (case n1w134 => k_asm); (case n2w134 => k_mem))); (case k6w134 => with_unfolding_all rfl); k_whole))
 k_with "subscriptTail" => (k_here; (with_reducible show wpAny _ _ (subscriptTail _ _ (Value.ref _) (Value.int (-1) _)) _ _ _); k_dflt (refine' Mine.item_n1 (xs := xs) (a := Value.ref T1) (b := Value.ref T2) (c := Value.ref T3) ?k1w135 ?_ ?k6w135; (case k1w135 => (refine' News.isList ?n1w135 ?n2w135; (case n1w135 => k_asm); (case n2w135 => k_mem))); (case k6w135 => with_unfolding_all rfl); k_whole))
 k_with "subscriptTail Name Slice ref ref" => (k_here; (with_reducible show wpAny _ _ (subscriptTail _ (PySem.Expr.Slice (some _) none none _) (Value.ref _) (Value.ref _)) _ _ _); k_dflt (refine' kmk_slice_lit (its := (xs ++ [Value.ref T1, Value.ref T2, Value.ref T3]).toArray) (zs := [Value.ref T1, Value.ref T2, Value.ref T3]) ?rq1Fw136 ?rq1Nw136 ?rq1lw136 ?rq1pw136 ?rq1qw136 ?rq1ew136 ?_ ?rq1sw136 ?rq1tw136 ?rq1zw136; (case rq1Fw136 => k_asm); (case rq1Nw136 => k_asm); (case rq1lw136 => (refine' News.isList ?rq1n1w136 ?rq1n2w136; (case rq1n1w136 => k_asm); (case rq1n2w136 => k_mem))); (case rq1pw136 => kmk_part); (case rq1qw136 => kmk_part); (case rq1ew136 => exact Mine.pick_from3 _ _ _ _); (case rq1sw136 => with_unfolding_all rfl); (case rq1tw136 => kmk_pure); (case rq1zw136 => (rw [List.size_toArray, hln, sizeLine_eq]; omega))); intro D' h' F' N' l1; (try k_lt l1))
 k_with "subscriptTail Name Slice ref ref" => (k_here; (with_reducible show wpAny _ _ (subscriptTail _ (PySem.Expr.Slice none (some _) none _) (Value.ref _) (Value.ref _)) _ _ _); k_dflt (refine' kmk_slice_lit (its := (xs ++ [Value.ref T1, Value.ref T2, Value.ref T3]).toArray) (zs := xs) ?rq2Fw137 ?rq2Nw137 ?rq2lw137 ?rq2pw137 ?rq2qw137 ?rq2ew137 ?_ ?rq2sw137 ?rq2tw137 ?rq2zw137; (case rq2Fw137 => k_asm); (case rq2Nw137 => k_asm); (case rq2lw137 => (refine' News.isList ?rq2n1w137 ?rq2n2w137; (case rq2n1w137 => k_asm); (case rq2n2w137 => k_mem))); (case rq2pw137 => kmk_part); (case rq2qw137 => kmk_part); (case rq2ew137 => exact Mine.pick_to3 _ _ _ _); (case rq2sw137 => with_unfolding_all rfl); (case rq2tw137 => kmk_pure); (case rq2zw137 => (rw [List.size_toArray, hln, sizeLine_eq]; omega))); intro D' h' F' N' l1; (try k_lt l1))
 k_with "compareOp NotIn str ref" => (k_here; (with_reducible show wpAny _ _ (compareOp CmpOp.NotIn (Value.str _ _) (Value.ref _)) _ _ _); k_dflt (refine' notin_list_strs ?k1w138 (.cons _ _ (.cons _ _ .nil)) ?_; (case k1w138 => (refine' News.isList ?n1w138 ?n2w138; (case n1w138 => k_asm); (case n2w138 => exact List.mem_cons_self ..))); k_whole); rw [hni])
 k_with "eval Subscript" => (k_here; have hgo9 := hgoA; clear hgo9; refine Mine.stop ?_)
 k_with "subscriptTail" => (k_here; have hgo9 := hgoB; clear hgo9; refine Mine.stop ?_)
 k_with "subscriptTail Name Slice ref ref" => (k_here; have hgo9 := hgoC; clear hgo9; refine Mine.stop ?_)
 k_with "call ref" => (k_here; (with_reducible show wpAny _ _ (call (Value.ref 130) _) _ _ _); (rw [hkk]); walk_at "f"; k_dflt (refine' Mine.shares_c _ kk _ ?c1w142 _ _ _ _ _ _ _ _ _ _ _ _ _ _ _ _ _ _ _ _ _ _ _ ?kBw142 ?kFw142 ?kXw142 ?kNw142 ?kTw142 ?kKw142 ?kPw142 ?kdw142 ?kuw142 ?_; (case kBw142 => k_asm); (case kFw142 => k_asm); (case kXw142 => k_asm); (case kNw142 => k_asm); (case kTw142 => k_asm); (case kKw142 => first | exact rfl | assumption); (case kPw142 => trivial); (case kdw142 => first | exact Mine.oDp (by with_reducible assumption) (by exact rfl) | exact Mine.oDq (by with_reducible assumption) (by exact rfl) | omega | ktr_room); (case kuw142 => first | exact Mine.oDp (by with_reducible assumption) (by exact rfl) | exact Mine.oDq (by with_reducible assumption) (by exact rfl) | omega | ktr_units); (case c1w142 => omega); k_whole); intro v9 tl9 h9 tk9 hp9 F9 N9; (try dsimp only at hp9); ((refine Mine.foldG ?_; intro gk308; (first | refine Mine.exE hp9 ?_ | refine Mine.anE hp9 ?_); intro D2 zo304; clear hp9; (first | refine Mine.exE zo304 ?_ | refine Mine.anE zo304 ?_); intro us2 zo305; clear zo304; (first | refine Mine.exE zo305 ?_ | refine Mine.anE zo305 ?_); intro os zo306; clear zo305; (first | refine Mine.exE zo306 ?_ | refine Mine.anE zo306 ?_); intro e1 zo307; clear zo306; (first | refine Mine.exE zo307 ?_ | refine Mine.anE zo307 ?_); intro e2 hsh; clear zo307; unfold gk308; clear gk308); cases e1; cases e2); (try dsimp only [List.nil_append, List.cons_append] at N9); (try dsimp only); walk_at "f")
 k_with "subscriptTail Name Constant ref int" => (k_here; (with_reducible show wpAny _ _ (subscriptTail _ _ (Value.ref _) (Value.int 0 _)) _ _ _); refine Mine.tup_i0 (by with_reducible assumption) ?_)
 k_with "subscriptTail Name Constant ref int" => (k_here; (with_reducible show wpAny _ _ (subscriptTail _ _ (Value.ref _) (Value.int 1 _)) _ _ _); refine Mine.tup_i1 (by with_reducible assumption) ?_)
 k_with "subscriptTail Name Constant ref int" => (k_here; (with_reducible show wpAny _ _ (subscriptTail _ _ (Value.ref _) (Value.int 2 _)) _ _ _); refine Mine.tup_i2 (by with_reducible assumption) ?_)
 k_with "subscriptTail Name Constant ref int" => (k_here; (with_reducible show wpAny _ _ (subscriptTail _ _ (Value.ref _) (Value.int 3 _)) _ _ _); refine Mine.tup_i3 (by with_reducible assumption) ?_)
 k_with "subscriptTail Name Constant ref int" => (k_here; have hgo9 := hgoB; clear hgo9; refine Mine.stop ?_)
 k_with "eval ListComp" => (k_here; have hgo9 := hgoF; clear hgo9; refine Mine.stop ?_)
 k_with "storeName" => (k_here; have hgo9 := hgoF; clear hgo9; refine Mine.stop ?_)
 k_with "exec Assign cons ListComp" => (k_here; with_reducible refine wpAny_Assign_Name ?_ ?_; rotate_left; with_unfolding_all rfl)
 k_with "exec Assign cons ListComp" => (k_here; have hgo9 := hgoF; clear hgo9; refine Mine.stop ?_)
 k_with "eval Name" => (k_here; have hgo9 := hgoA; clear hgo9; refine Mine.stop ?_)
 k_with "assign Tuple" => (k_here; have hgo9 := hgoD; clear hgo9; refine Mine.stop ?_)
 k_with "storeName" => (k_here; have hgo9 := hgoS; clear hgo9; k_dflt (refine' storeX_C ?rsFw154 ?rsNw154 ?rscw154 ?rsUw154 ?rsdw154 ?_ ?rsaw154 ?rsbw154; (case rsaw154 => rfl); (case rsbw154 => rfl); (case rsFw154 => k_asm); (case rsNw154 => k_asm); (case rscw154 => rfl); (case rsUw154 => first | exact UpdF.head (by repeat' (first | (with_reducible assumption) | exact List.forall_mem_nil _ | (refine List.forall_mem_cons.mpr ⟨(by first | with_reducible assumption | exact Ne.symm (by with_reducible assumption)), ?_⟩))) | exact UpdF.tail (by first | with_reducible assumption | exact Ne.symm (by with_reducible assumption)) (UpdF.head (by repeat' (first | (with_reducible assumption) | exact List.forall_mem_nil _ | (refine List.forall_mem_cons.mpr ⟨(by first | with_reducible assumption | exact Ne.symm (by with_reducible assumption)), ?_⟩)))) | exact UpdF.tail (by first | with_reducible assumption | exact Ne.symm (by with_reducible assumption)) (UpdF.tail (by first | with_reducible assumption | exact Ne.symm (by with_reducible assumption)) (UpdF.head (by repeat' (first | (with_reducible assumption) | exact List.forall_mem_nil _ | (refine List.forall_mem_cons.mpr ⟨(by first | with_reducible assumption | exact Ne.symm (by with_reducible assumption)), ?_⟩)))))); (case rsdw154 => k_asm); k_whole); intro h' o' F' N' d'; (try dsimp only at N'))
 k_with "pyIter str" => (k_here; refine Mine.stop ?_)
 k_with "exec While BoolOp cons nil" => (k_here; refine Mine.stop ?_)
 k_with "compareOp Lt ref ref" => (k_here; have hgo9 := hgoG; clear hgo9; refine Mine.stop ?_)
 k_with "subscriptTail Name Constant ref int" => (k_here; have hgo9 := hgoG; clear hgo9; (first
 | ((with_reducible show wpAny _ _ (subscriptTail _ _ (Value.ref _) (Value.int 0 _)) _ _ _); refine Mine.tup_i0 (News.isTup (by k_asm) (by k_mem)) ?_)
 | ((with_reducible show wpAny _ _ (subscriptTail _ _ (Value.ref _) (Value.int 1 _)) _ _ _); refine Mine.tup_i1 (News.isTup (by k_asm) (by k_mem)) ?_)
 | ((with_reducible show wpAny _ _ (subscriptTail _ _ (Value.ref _) (Value.int 2 _)) _ _ _); refine Mine.tup_i2 (News.isTup (by k_asm) (by k_mem)) ?_)
 | ((with_reducible show wpAny _ _ (subscriptTail _ _ (Value.ref _) (Value.int 3 _)) _ _ _); refine Mine.tup_i3 (News.isTup (by k_asm) (by k_mem)) ?_)))
 k_with "eval Name" => (k_here; have hgo9 := hgoG; clear hgo9; (with_reducible show wpAny _ _ (eval (PySem.Expr.Name _ _) (compEnvC _ _ _ _)) _ _ _); k_dflt (refine' Mine.cname_L ?k1w159 ?k2w159 ?k3w159 ?k4w159 ?_ ?k5w159 ?k6w159 ?k7w159; (case k6w159 => rfl); (case k5w159 => rfl); (case k7w159 => decide); (case k1w159 => k_asm); (case k3w159 => assumption); (case k2w159 => k_mem); (case k4w159 => with_reducible assumption); k_whole))
 k_with "subscriptTail" => (k_here; have hgo9 := hgoI; clear hgo9; (with_reducible show wpAny _ _ (subscriptTail _ _ (Value.ref _) (Value.int _ _)) _ _ _); (with_unfolding_all refine' item_anyK ?k1w160 ?k2w160 ?k3w160 ?k4w160 ?k5w160 ?_ ?k6w160; (case k1w160 => exact News.isList (by k_asm) (Mine.mem_of2 hDR (by intro q hq; simp only [List.mem_cons, List.mem_append, hq, or_true]))); (case k2w160 => exact hvs); (case k3w160 => omega); (case k4w160 => (rw [List.length_map, Mine.cnts_len]; omega)); (case k5w160 => omega); (case k6w160 => with_unfolding_all rfl); k_whole); intro _; simp only [Mine.cn_at2])
 k_with "binaryOp Mult int int" => (k_here; have hgo9 := hgoG; clear hgo9; k_dflt (refine' mul_int ?_ ?kw161; (case kw161 => exact IntMulOk.of_right (by with_reducible assumption)); k_whole))
 k_with "call builtin:sum" => (k_here; have hgo9 := hgoG; clear hgo9; refine Mine.stop ?_)
 k_with "call type:int" => (k_here; have hgo9 := hgoG; clear hgo9; (with_reducible show wpAny _ _ (call (Value.type "int") [Value.str _ _, Value.int _ _]) _ _ _); (with_unfolding_all refine' Mine.call_hex (x := Mine.mk [c2] ++ Mine.mk [c3]) ?k1w163 ?k2w163 ?k3w163 ?_; (case k1w163 => exact Mine.mk_append _ _); (case k2w163 => exact hx2); (case k3w163 => exact hx3); k_whole))
 (unfold Mine.CtrN; k_fill; intro p loose mean mg mb dp un gd cn cs a ccd cl outer A₀ base h₀ L m news s Q E B F X N T hk hpre hd hu hret; refine wpAny_call ?_; k_dflt (refine' code_defC (binds := [(Str.ofString "text", Value.str (Mine.mk (Mine.flat s9 T9)) t1), (Str.ofString "counts", Value.ref D)]) ?k1 ?k2 ?k3 ?k4 ?k5 ?kA ?kF ?kK ?k6 ?k7 ?k8 ?k9 ?kB ?kD ?_ ?c2 ?c3 ?c4; (case kA => exact rfl); (case kF => exact rfl); (case kK => assumption); (case k1 => k_asm); (case k2 => k_asm); (case k3 => k_asm); (case k4 => k_asm); (case k5 => k_asm); (case k6 => k_is); (case k7 => k_is); (case k8 => ktr_room); (case k9 => first | exact BindsTo.of_eq (by kernel_rfl) | exact binds_K (by k_in) rfl (by k_is) rfl rfl rfl); (case kB => exact rfl); (case kD => decide +kernel); (case c2 => exact rfl); (case c3 => exact rfl); (case c4 => exact rfl); k_whole; intro g' L' h' tk' cells' FG' F' N' Y' B' X' T' l1; k_cells Y'; (try dsimp only [List.cons_append, List.nil_append] at N'); (try dsimp only); walk_at "f"))
 (replace F' : Fr g' L' h' (kstB (fun _ => none) [(Str.ofString "text", Value.str (Mine.mk (Mine.flat s9 T9)) t1)]) := Mine.fr_same F' (by kernel_rfl))
 dsimp only [kstB] at F'
 (refine Mine.foldA ?_; intro ak)
 walk_at "~"
 unfold Mine.Stop
 (try k_unmd); (try dsimp only)
 (first | (with_reducible rename News g' L' _ _ => hN2) | rename News g' L' _ _ => hN2)
 (first | (with_reducible rename Fr g' L' _ _ => hF2) | rename Fr g' L' _ _ => hF2)
 ((first | refine Mine.exE (Mine.name_1 hN2) ?_ | refine Mine.anE (Mine.name_1 hN2) ?_); intro PD0 e)
 subst e
 have hpack : ∃ oC o1 o2 o3 : Obj, Mine.cellO o1 ∧ Mine.cellO o2 ∧ Mine.cellO o3 ∧ oC.data = Data.cell (some (Value.ref D)) ∧ News g' L' _ ((PD0, W.listOf #[] 0) :: (L' + 1 + 1 + 1 + 1, o3) :: (L' + 1 + 1 + 1, o2) :: (L' + 1 + 1, o1) :: (L' + 1, oC) :: news) :=
  ⟨_, _, _, _, ⟨_, by assumption⟩, ⟨_, by assumption⟩, ⟨_, by assumption⟩, by assumption, hN2⟩
 clear hN2
 (refine Mine.foldG ?_; intro gk316; (first | refine Mine.exE hpack ?_ | refine Mine.anE hpack ?_); intro oC zo309; clear hpack; (first | refine Mine.exE zo309 ?_ | refine Mine.anE zo309 ?_); intro o1 zo310; clear zo309; (first | refine Mine.exE zo310 ?_ | refine Mine.anE zo310 ?_); intro o2 zo311; clear zo310; (first | refine Mine.exE zo311 ?_ | refine Mine.anE zo311 ?_); intro o3 zo312; clear zo311; (first | refine Mine.exE zo312 ?_ | refine Mine.anE zo312 ?_); intro ho1 zo313; clear zo312; (first | refine Mine.exE zo313 ?_ | refine Mine.anE zo313 ?_); intro ho2 zo314; clear zo313; (first | refine Mine.exE zo314 ?_ | refine Mine.anE zo314 ?_); intro ho3 zo315; clear zo314; (first | refine Mine.exE zo315 ?_ | refine Mine.anE zo315 ?_); intro hoC hN2; clear zo315; unfold gk316; clear gk316)
 have hPD0 : L' < PD0 := by
  rename L' + 1 + 1 + 1 + 1 < PD0 ∧ _ => hq
  exact Nat.lt_trans (Nat.lt_succ_of_lt (Nat.lt_succ_of_lt (Nat.lt_succ_of_lt (Nat.lt_succ_self L')))) hq.1
 have hxl := Mine.flat_len T9 s9
 (refine Mine.nameE (a := Mine.flat s9 T9) ?_; intro x hx)
 dsimp +zetaDelta only at hF2
 rw [← hx] at hF2 hxl ⊢
 refine Mine.for_str (σ := Addr × Nat × Obj × Obj × Obj × List Mine.Ent) (fun c => (c.1, W.listOf (c.2.2.2.2.2.reverse.map Mine.entV).toArray c.2.1) :: (L' + 1 + 1 + 1 + 1, c.2.2.2.2.1) :: (L' + 1 + 1 + 1, c.2.2.2.1) :: (L' + 1 + 1, c.2.2.1) :: c.2.2.2.2.2.map Mine.entO) ((L' + 1, oC) :: news) (fun c => [(Str.ofString "pile", .ref c.1)]) [Str.ofString "size", Str.ofString "ahead", Str.ofString "number"]
  (fun i c => L' < c.1 ∧ Mine.cellO c.2.2.1 ∧ Mine.cellO c.2.2.2.1 ∧ Mine.cellO c.2.2.2.2.1 ∧ Mine.absE c.2.2.2.2.2 = Mine.readP Mine.ndR Mine.eR [] (x.take i) ∧ Mine.okE (Mine.absE c.2.2.2.2.2) ∧ Mine.weiE (Mine.absE c.2.2.2.2.2) = i) (PD0, 0, o1, o2, o3, []) hF2 ?hN rfl ?hk ?hp (fun _ _ _ => trivial) ?turn ?done
 case hN => exact Mine.news_re hN2 (by intro p hp; simp only [List.mem_cons, List.mem_append, List.map_nil, List.not_mem_nil, or_false, List.reverse_nil] at hp ⊢; rcases hp with (h | h | h | h) | h | h <;> simp [h])
 case hk => intro p hp; rcases List.mem_singleton.mp hp with rfl; rfl
 case hp => exact ⟨hPD0, ho1, ho2, ho3, rfl, (fun _ h => nomatch h), rfl⟩
 case turn =>
  ((repeat ((with_reducible rename Fr g' L' _ _ => Fx9); clear Fx9)); (repeat ((with_reducible rename News g' L' _ _ => Nx9); clear Nx9)))
  clear ho1 ho2 ho3 hPD0
  refine Mine.tq6 ?_
  intro PD nl o1 o2 o3 es i k ti u2 I h tk oI hk9 hoI hP F5 N5
  (try k_unmd); walk_at "f"
  (try dsimp only at hP N5)
  (refine Mine.foldG ?_; intro gk322; (first | refine Mine.exE hP ?_ | refine Mine.anE hP ?_); intro hPD zo317; clear hP; (first | refine Mine.exE zo317 ?_ | refine Mine.anE zo317 ?_); intro ho1 zo318; clear zo317; (first | refine Mine.exE zo318 ?_ | refine Mine.anE zo318 ?_); intro ho2 zo319; clear zo318; (first | refine Mine.exE zo319 ?_ | refine Mine.anE zo319 ?_); intro ho3 zo320; clear zo319; (first | refine Mine.exE zo320 ?_ | refine Mine.anE zo320 ?_); intro habs zo321; clear zo320; (first | refine Mine.exE zo321 ?_ | refine Mine.anE zo321 ?_); intro hok hwe; clear zo321; unfold gk322; clear gk322)
  have hik : x[i]? = some k := by simpa [Mine.mk] using hk9
  have hi11 : i < 11 := by have := (List.getElem?_eq_some_iff.mp hik).1; omega
  have hel : es.length ≤ 11 := by have := Mine.weiE_len es; omega
  dsimp only [kstB] at F5
  have F6 : Fr g' L' h _ := F5
  clear F5
  have N6 : News g' L' h _ := Mine.news_re (l' := Mine.rdLed L' PD I nl oI oC o1 o2 o3 es news) N5 (by delta Mine.rdLed; walk_at "n")
  clear N5 hk9
  have hlo : ∀ p ∈ news, p.1 < L' := l1
  have hxI : I ≠ PD := Mine.iter_ne2 N6 (by delta Mine.rdLed; walk_at "m") (List.mem_cons_self ..) hoI (Mine.isIter_cls rfl (by decide))
  have hx3 : L' + 1 + 1 + 1 + 1 ≠ PD := Mine.ne_obj N6 (oa := o3) (by delta Mine.rdLed; walk_at "m") (List.mem_cons_self ..) (Mine.cell_list ho3)
  have hx2 : L' + 1 + 1 + 1 ≠ PD := Mine.ne_obj N6 (oa := o2) (by delta Mine.rdLed; walk_at "m") (List.mem_cons_self ..) (Mine.cell_list ho2)
  have hx1 : L' + 1 + 1 ≠ PD := Mine.ne_obj N6 (oa := o1) (by delta Mine.rdLed; walk_at "m") (List.mem_cons_self ..) (Mine.cell_list ho1)
  have hx0 : L' + 1 ≠ PD := Mine.ne_obj N6 (oa := oC) (by delta Mine.rdLed; walk_at "m") (List.mem_cons_self ..) (Mine.cell_list ⟨_, hoC⟩)
  have hxp : ∀ p ∈ es.map Mine.entO, p.1 ≠ PD := Mine.pool_off N6 (List.mem_cons_self ..) (fun p hp => by delta Mine.rdLed; walk_at "m") (fun e => by intro h; have := congrArg Obj.cls h; simp [Mine.entO, W.listOf] at this)
  (refine Mine.nameE (a := es.map Mine.entO ++ news) ?_; intro R hR)
  have hxR : ∀ p ∈ R, p.1 ≠ PD := by
   intro p hp
   rw [hR] at hp
   rcases List.mem_append.mp hp with hp | hp
   ·exact hxp p hp
   ·exact Nat.ne_of_lt (Nat.lt_trans (hlo p hp) hPD)
  clear hxp
  unfold Mine.rdLed at N6
  rw [← hR] at N6
  have hul : (es.reverse.map Mine.entV).length ≤ 11 := by simp; exact hel
  (refine Mine.nameE (a := es.reverse.map Mine.entV) ?_; intro us hus)
  rw [← hus] at N6 hul
  (try k_unmd); walk_at "f"
  walk_at "~"
  unfold Mine.Stop
  (try k_unmd); (try dsimp only)
  with_reducible rename News g' L' _ _ => hN7
  with_reducible rename Fr g' L' _ _ => hF7
  ((first | refine Mine.exE (Mine.name_1 hN7) ?_ | refine Mine.anE (Mine.name_1 hN7) ?_); intro T e)
  subst e
  rw [Mine.app_objn, hus] at hN7
  rw [hR] at hN7
  replace hN7 := Mine.rd_push hN7
  revert hF7 hN7
  ((repeat ((with_reducible rename Fr g' L' _ _ => Fx9); clear Fx9)); (repeat ((with_reducible rename News g' L' _ _ => Nx9); clear Nx9)))
  intro hF7 hN7
  clear hxR hR hul hus hx0 hx1 hx2 hx3 hxI
  have hk256 : k < 256 := Mine.flat_lt T9 s9 hs9 k (hx ▸ List.mem_of_getElem? hik)
  refine Mine.while_c (σ := Addr × Nat × Obj × Obj × Obj × List Mine.Ent) (fun c => Mine.rdLed L' c.1 I c.2.1 oI oC c.2.2.1 c.2.2.2.1 c.2.2.2.2.1 c.2.2.2.2.2 news) (fun c => [(Str.ofString "pile", .ref c.1)]) [Str.ofString "size", Str.ofString "ahead", Str.ofString "number"]
   (fun c => L' < c.1 ∧ Mine.cellO c.2.2.1 ∧ Mine.cellO c.2.2.2.1 ∧ Mine.cellO c.2.2.2.2.1 ∧ Mine.settle Mine.ndR (Mine.absE c.2.2.2.2.2) = Mine.readP Mine.ndR Mine.eR [] (x.take (i + 1)) ∧ Mine.settleOk Mine.ndR (Mine.absE c.2.2.2.2.2) ∧ Mine.okE (Mine.absE c.2.2.2.2.2) ∧ Mine.weiE (Mine.absE c.2.2.2.2.2) = i + 1)
   (fun c => c.2.2.2.2.2.length) (PD, _, o1, o2, o3, _) hF7 hN7 ?hk2 ?hp2 ?turn2
  case hk2 => intro p hp; rcases List.mem_singleton.mp hp with rfl; rfl
  case hp2 =>
   refine ⟨hPD, ho1, ho2, ho3, ?_, ?_, ?_, ?_⟩
   ·rw [Mine.take_one hik, Mine.readP_app, ← habs]; rfl
   ·rw [Mine.abs_cons, habs]; exact Mine.ok_step hs9 hx hik
   ·exact Mine.okE_cons hk256 (show 1 ≤ 5 ^ 0 from Nat.le_refl 1) hok
   ·show 2 * 0 + 1 + Mine.weiE (Mine.absE es) = i + 1
    omega
  case turn2 =>
   ((repeat ((with_reducible rename Fr g' L' _ _ => Fx9); clear Fx9)); (repeat ((with_reducible rename News g' L' _ _ => Nx9); clear Nx9)))
   clear hPD ho1 ho2 ho3 hwe hok habs
   refine Mine.tq6 ?_
   intro PD nl o1 o2 o3 es
   (try k_unmd); walk_at "f"
   by_cases hsh : es.length < 3
   ·intro u3 h3 tk3 hP F8 N8
    (try dsimp only at hP N8)
    (refine Mine.foldG ?_; intro gk329; (first | refine Mine.exE hP ?_ | refine Mine.anE hP ?_); intro hPD zo323; clear hP; (first | refine Mine.exE zo323 ?_ | refine Mine.anE zo323 ?_); intro ho1 zo324; clear zo323; (first | refine Mine.exE zo324 ?_ | refine Mine.anE zo324 ?_); intro ho2 zo325; clear zo324; (first | refine Mine.exE zo325 ?_ | refine Mine.anE zo325 ?_); intro ho3 zo326; clear zo325; (first | refine Mine.exE zo326 ?_ | refine Mine.anE zo326 ?_); intro hset zo327; clear zo326; (first | refine Mine.exE zo327 ?_ | refine Mine.anE zo327 ?_); intro hsok zo328; clear zo327; (first | refine Mine.exE zo328 ?_ | refine Mine.anE zo328 ?_); intro hok hwe; clear zo328; unfold gk329; clear gk329)
    dsimp only [kstB] at F8
    have hel2 : es.length ≤ 11 := by have := Mine.weiE_len es; omega
    have hul : (es.reverse.map Mine.entV).length = es.length := by simp
    have N9 := N8
    unfold Mine.rdLed at N9
    (refine Mine.nameE (a := es.reverse.map Mine.entV) ?_; intro us hus)
    rw [← hus] at N9 hul
    (refine Mine.nameE (a := es.map Mine.entO ++ news) ?_; intro R hR)
    rw [← hR] at N9
    (try k_unmd); walk_at "f"
    walk_at "~"
    (try k_unmd); (try k_unfold)
    unfold Mine.LpPost
    (try dsimp only)
    refine Mine.rd_lp (by k_asm) N8 ho1 ho2 ho3 (if_pos rfl) (by kst_same) ⟨hPD, ho1, ho2, ho3, ?_, hok, hwe⟩
    rw [← hset, Mine.settle_short]
    unfold Mine.absE; simpa using hsh
   ·revert es
    refine Mine.ents3 ?_
    intro T3 c3 a3 n3 p3 t31 t32 t33 t34 T2 c2 a2 n2 p2 t21 t22 t23 t24 T1 c1 a1 n1 p1 t11 t12 t13 t14 r u3 h3 tk3 hP F8 N8
    (try dsimp only at hP N8)
    (refine Mine.foldG ?_; intro gk336; (first | refine Mine.exE hP ?_ | refine Mine.anE hP ?_); intro hPD zo330; clear hP; (first | refine Mine.exE zo330 ?_ | refine Mine.anE zo330 ?_); intro ho1 zo331; clear zo330; (first | refine Mine.exE zo331 ?_ | refine Mine.anE zo331 ?_); intro ho2 zo332; clear zo331; (first | refine Mine.exE zo332 ?_ | refine Mine.anE zo332 ?_); intro ho3 zo333; clear zo332; (first | refine Mine.exE zo333 ?_ | refine Mine.anE zo333 ?_); intro hset zo334; clear zo333; (first | refine Mine.exE zo334 ?_ | refine Mine.anE zo334 ?_); intro hsok zo335; clear zo334; (first | refine Mine.exE zo335 ?_ | refine Mine.anE zo335 ?_); intro hok hwe; clear zo335; unfold gk336; clear gk336)
    dsimp only [kstB] at F8
    have hel2 := Nat.le_trans (Mine.weiE_len _) (Nat.le_trans (Nat.le_of_eq hwe) hi11)
    have N9 := Mine.rd_open N8
    (refine Mine.nameE (a := r.reverse.map Mine.entV) ?_; intro xs hxs)
    (refine Mine.nameE (a := r.map Mine.entO ++ news) ?_; intro R hR)
    rw [← hxs, ← hR] at N9
    have hln : (xs ++ [Value.ref T1, Value.ref T2, Value.ref T3]).length = r.length + 3 := by rw [hxs]; simp
    have hrl : r.length ≤ 11 := by simp only [List.length_cons] at hel2; omega
    rw [Mine.abs_cons, Mine.abs_cons, Mine.abs_cons] at hset hsok hok hwe
    have hset9 : Unit → _ := fun _ => hset
    have hsok9 : Unit → _ := fun _ => hsok
    clear hset hsok
    have hIo1 : I ≠ L' + 1 + 1 := Mine.iter_ne2 N9 (by walk_at "m") (by walk_at "m") hoI (Mine.cell_iter ho1)
    have hPDo1 : PD ≠ L' + 1 + 1 := Ne.symm (Mine.ne_obj N9 (oa := o1) (by walk_at "m") (List.mem_cons_self ..) (Mine.cell_list ho1))
    have hT1o1 : T1 ≠ L' + 1 + 1 := Ne.symm (Mine.ne_obj N9 (oa := o1) (by k_mem) (by k_mem) (Mine.cell_tup ho1))
    have hT2o1 : T2 ≠ L' + 1 + 1 := Ne.symm (Mine.ne_obj N9 (oa := o1) (by k_mem) (by k_mem) (Mine.cell_tup ho1))
    have hT3o1 : T3 ≠ L' + 1 + 1 := Ne.symm (Mine.ne_obj N9 (oa := o1) (by k_mem) (by k_mem) (Mine.cell_tup ho1))
    have hRo1 : ∀ p ∈ R, p.1 ≠ L' + 1 + 1 := Mine.rest_off N9 (oa := o1) hR (fun p hp => by walk_at "m") (by walk_at "m") ho1 (fun p hp => Nat.lt_trans (l1 p hp) (by omega))
    have hIo2 : I ≠ L' + 1 + 1 + 1 := Mine.iter_ne2 N9 (by walk_at "m") (by walk_at "m") hoI (Mine.cell_iter ho2)
    have hPDo2 : PD ≠ L' + 1 + 1 + 1 := Ne.symm (Mine.ne_obj N9 (oa := o2) (by walk_at "m") (List.mem_cons_self ..) (Mine.cell_list ho2))
    have hT1o2 : T1 ≠ L' + 1 + 1 + 1 := Ne.symm (Mine.ne_obj N9 (oa := o2) (by k_mem) (by k_mem) (Mine.cell_tup ho2))
    have hT2o2 : T2 ≠ L' + 1 + 1 + 1 := Ne.symm (Mine.ne_obj N9 (oa := o2) (by k_mem) (by k_mem) (Mine.cell_tup ho2))
    have hT3o2 : T3 ≠ L' + 1 + 1 + 1 := Ne.symm (Mine.ne_obj N9 (oa := o2) (by k_mem) (by k_mem) (Mine.cell_tup ho2))
    have hRo2 : ∀ p ∈ R, p.1 ≠ L' + 1 + 1 + 1 := Mine.rest_off N9 (oa := o2) hR (fun p hp => by walk_at "m") (by walk_at "m") ho2 (fun p hp => Nat.lt_trans (l1 p hp) (by omega))
    have hIo3 : I ≠ L' + 1 + 1 + 1 + 1 := Mine.iter_ne2 N9 (by walk_at "m") (by walk_at "m") hoI (Mine.cell_iter ho3)
    have hPDo3 : PD ≠ L' + 1 + 1 + 1 + 1 := Ne.symm (Mine.ne_obj N9 (oa := o3) (by walk_at "m") (List.mem_cons_self ..) (Mine.cell_list ho3))
    have hT1o3 : T1 ≠ L' + 1 + 1 + 1 + 1 := Ne.symm (Mine.ne_obj N9 (oa := o3) (by k_mem) (by k_mem) (Mine.cell_tup ho3))
    have hT2o3 : T2 ≠ L' + 1 + 1 + 1 + 1 := Ne.symm (Mine.ne_obj N9 (oa := o3) (by k_mem) (by k_mem) (Mine.cell_tup ho3))
    have hT3o3 : T3 ≠ L' + 1 + 1 + 1 + 1 := Ne.symm (Mine.ne_obj N9 (oa := o3) (by k_mem) (by k_mem) (Mine.cell_tup ho3))
    have hRo3 : ∀ p ∈ R, p.1 ≠ L' + 1 + 1 + 1 + 1 := Mine.rest_off N9 (oa := o3) hR (fun p hp => by walk_at "m") (by walk_at "m") ho3 (fun p hp => Nat.lt_trans (l1 p hp) (by omega))
    (try k_unmd); walk_at "f"
    have he1 := Mine.eq_sign c1
    have he2 := Mine.eq_sign c2
    have he3 := Mine.eq_sign c3
    by_cases hgo : c1 = 61 ∧ c2 ≠ 61 ∧ c3 ≠ 61
    ·((first | refine Mine.exE hgo ?_ | refine Mine.anE hgo ?_); intro g1 zo337; clear hgo; (first | refine Mine.exE zo337 ?_ | refine Mine.anE zo337 ?_); intro g2 g3; clear zo337)
     rw [decide_eq_true g1] at he1
     have hni : (!([Mine.mk [c2], Mine.mk [c3]].any (· == Str.ofString "="))) = true := by
      rw [decide_eq_false g2] at he2; rw [decide_eq_false g3] at he3
      simp only [List.any_cons, List.any_nil, he2, he3]; rfl
     clear N8 he2 he3
     ((first | refine Mine.exE (id ho1) ?_ | refine Mine.anE (id ho1) ?_); intro v1 ho1d)
     ((first | refine Mine.exE (id ho2) ?_ | refine Mine.anE (id ho2) ?_); intro v2 ho2d)
     ((first | refine Mine.exE (id ho3) ?_ | refine Mine.anE (id ho3) ?_); intro v3 ho3d)
     have hgoD := trivial
     walk_at "~"
     unfold Mine.Stop
     (try k_unmd); (try dsimp only)
     with_reducible rename News g' L' _ _ => hNa
     with_reducible rename Fr g' L' _ _ => hFa
     ((first | refine Mine.exE (Mine.name_1 hNa) ?_ | refine Mine.anE (Mine.name_1 hNa) ?_); intro L3 e)
     subst e
     have hNb := Mine.news_re (l' := (L' + 1 + 1 + 1 + 1, o3) :: (L' + 1 + 1 + 1, o2) :: (L' + 1 + 1, o1) :: (L3, W.listOf [Value.ref T1, Value.ref T2, Value.ref T3].toArray 0) :: (PD, W.listOf (xs ++ [Value.ref T1, Value.ref T2, Value.ref T3]).toArray nl) :: (I, oI) :: (L' + 1, oC) ::
      (T3, { cls := .type "tuple", data := .seq #[.str (Mine.mk [c3]) t31, .int (a3 : Nat) t32, .int (n3 : Nat) t33, .int (p3 : Nat) t34] }) :: (T2, { cls := .type "tuple", data := .seq #[.str (Mine.mk [c2]) t21, .int (a2 : Nat) t22, .int (n2 : Nat) t23, .int (p2 : Nat) t24] }) ::
      (T1, { cls := .type "tuple", data := .seq #[.str (Mine.mk [c1]) t11, .int (a1 : Nat) t12, .int (n1 : Nat) t13, .int (p1 : Nat) t14] }) :: R) hNa (by walk_at "n")
     have hL3o1 : L3 ≠ L' + 1 + 1 := Ne.symm (Mine.ne_obj hNb (oa := o1) (by k_mem) (by k_mem) (Mine.cell_list ho1))
     have hL3o2 : L3 ≠ L' + 1 + 1 + 1 := Ne.symm (Mine.ne_obj hNb (oa := o2) (by k_mem) (by k_mem) (Mine.cell_list ho2))
     have hL3o3 : L3 ≠ L' + 1 + 1 + 1 + 1 := Ne.symm (Mine.ne_obj hNb (oa := o3) (by k_mem) (by k_mem) (Mine.cell_list ho3))
     have hC1 : L' + 1 ≠ L' + 1 + 1 := Nat.ne_of_lt (Nat.lt_succ_self _)
     have hC2 : L' + 1 ≠ L' + 1 + 1 + 1 := Nat.ne_of_lt (Nat.lt_succ_of_lt (Nat.lt_succ_self _))
     have hC3 : L' + 1 ≠ L' + 1 + 1 + 1 + 1 := Nat.ne_of_lt (Nat.lt_succ_of_lt (Nat.lt_succ_of_lt (Nat.lt_succ_self _)))
     have hC12 : L' + 1 + 1 ≠ L' + 1 + 1 + 1 := Nat.ne_of_lt (Nat.lt_succ_self _)
     have hC13 : L' + 1 + 1 ≠ L' + 1 + 1 + 1 + 1 := Nat.ne_of_lt (Nat.lt_succ_of_lt (Nat.lt_succ_self _))
     have hC23 : L' + 1 + 1 + 1 ≠ L' + 1 + 1 + 1 + 1 := Nat.ne_of_lt (Nat.lt_succ_self _)
     revert hFa hNb
     ((repeat ((with_reducible rename Fr g' L' _ _ => Fx9); clear Fx9)); (repeat ((with_reducible rename News g' L' _ _ => Nx9); clear Nx9)))
     intro hFa hNb
     (repeat ((with_reducible rename (_ ∧ _ ∧ _) => hz9); clear hz9))
     clear hgoD
     have hgoS := trivial
     have hgoA := trivial
     walk_at "~"
     unfold Mine.Stop
     (try k_unmd); (try dsimp only)
     with_reducible rename News g' L' _ _ => hNa
     with_reducible rename Fr g' L' _ _ => hFa
     with_reducible rename Obj.data _ = Data.cell (some (Value.ref T1)) => hd1
     with_reducible rename Obj.data _ = Data.cell (some (Value.ref T2)) => hd2
     with_reducible rename Obj.data _ = Data.cell (some (Value.ref T3)) => hd3
     (refine Mine.foldG ?_; intro gk343; (first | refine Mine.exE (Mine.rd_three hNa) ?_ | refine Mine.anE (Mine.rd_three hNa) ?_); intro q1 zo338; (first | refine Mine.exE zo338 ?_ | refine Mine.anE zo338 ?_); intro q2 zo339; clear zo338; (first | refine Mine.exE zo339 ?_ | refine Mine.anE zo339 ?_); intro q3 zo340; clear zo339; (first | refine Mine.exE zo340 ?_ | refine Mine.anE zo340 ?_); intro e1 zo341; clear zo340; (first | refine Mine.exE zo341 ?_ | refine Mine.anE zo341 ?_); intro e2 zo342; clear zo341; (first | refine Mine.exE zo342 ?_ | refine Mine.anE zo342 ?_); intro e3 hNb; clear zo342; unfold gk343; clear gk343)
     rw [← e1] at hd1
     rw [← e2] at hd2
     rw [← e3] at hd3
     clear e1 e2 e3
     revert hFa hNb
     ((repeat ((with_reducible rename Fr g' L' _ _ => Fx9); clear Fx9)); (repeat ((with_reducible rename News g' L' _ _ => Nx9); clear Nx9)))
     intro hFa hNb
     clear hgoS hgoA ho1d ho2d ho3d ho1 ho2 ho3 hL3o1 hL3o2 hL3o3 hni
     (refine Mine.nameE (a := a1 + a2 + a3 + 1) ?_; intro kk hkk0)
     have hkk : (a1 : Int) + (a2 : Int) + (a3 : Int) + 1 = ((kk : Nat) : Int) := by omega
     have hk5 : kk ≤ 5 := by
      simp only [Mine.wei_cons] at hwe
      omega
     have hT1 := News.isTup (items := #[.str (Mine.mk [c1]) t11, .int (a1 : Nat) t12, .int (n1 : Nat) t13, .int (p1 : Nat) t14]) (a := T1) hNb (by k_mem)
     have hT2 := News.isTup (items := #[.str (Mine.mk [c2]) t21, .int (a2 : Nat) t22, .int (n2 : Nat) t23, .int (p2 : Nat) t24]) (a := T2) hNb (by k_mem)
     have hT3 := News.isTup (items := #[.str (Mine.mk [c3]) t31, .int (a3 : Nat) t32, .int (n3 : Nat) t33, .int (p3 : Nat) t34]) (a := T3) hNb (by k_mem)
     have hgoF := trivial
     walk_at "~"
     unfold Mine.Stop
     refine storeX_L hFa hNb ?_ rfl rfl
     clear hFa hNb
     intro h' F' N'
     walk_at "~"
     unfold Mine.Stop
     refine' Mine.assign_gen ?_ ?gh0 ?gh1 ?gh2 ?gh3
     case gh0 => with_unfolding_all rfl
     case gh1 => rfl
     case gh2 => rfl
     case gh3 => decide
     clear hgoF
     (try k_unmd); walk_at "f"
     walk_at "~"
     unfold Mine.Stop
     (try k_unmd); (try dsimp only)
     with_reducible rename News g' L' _ _ => hNc
     with_reducible rename Fr g' L' _ _ => hFc
     with_reducible rename Mine.ShAre _ _ _ => hsh
     with_reducible rename List Value => us2
     with_reducible rename List (Addr × Obj) => os
     ((first | refine Mine.exE (Mine.name_1 hNc) ?_ | refine Mine.anE (Mine.name_1 hNc) ?_); intro D2 e)
     subst e
     replace hNc := Mine.rd_pack9 hNc
     refine Mine.gen_list1U (σ := List Value) (rest := ?restza) (p := ?pza) (fun c => c) (fun c => c.length) (fun _ => []) (fun i c => Mine.ShAre (((Mine.sharesL kk).take i).filter (fun p => Mine.lt3 p (a1, a2, a3))) c os) [] ?hTa hFc hNc rfl rfl rfl ?hPa ?hcella rfl rfl ?turna rfl rfl rfl ?donea
     case hTa =>
      intro it acc cenv
      exact Mine.hT1f _ _ _ _ _ _ _ _ _
     case hPa => exact Mine.ShAre.nil' hsh.2.1
     case hcella => decide
     case turna =>
      ((repeat ((with_reducible rename Fr g' L' _ _ => Fx9); clear Fx9)); (repeat ((with_reducible rename News g' L' _ _ => Nx9); clear Nx9)))
      intro D9 C9 I9 c9 i9 v9 h tk oI9 oC9 mC9 hDC hDl hi9 hoI9 hP9 hNC F5 N5
      (try k_unmd); walk_at "f"
      dsimp only [List.nil_append] at hP9 N5
      refine Mine.rest_T ?_
      (refine Mine.foldG ?_; intro gk352; (first | refine Mine.exE (Mine.sh_get hsh hi9) ?_ | refine Mine.anE (Mine.sh_get hsh hi9) ?_); intro x9 zo344; (first | refine Mine.exE zo344 ?_ | refine Mine.anE zo344 ?_); intro y9 zo345; clear zo344; (first | refine Mine.exE zo345 ?_ | refine Mine.anE zo345 ?_); intro z9 zo346; clear zo345; (first | refine Mine.exE zo346 ?_ | refine Mine.anE zo346 ?_); intro T9b zo347; clear zo346; (first | refine Mine.exE zo347 ?_ | refine Mine.anE zo347 ?_); intro u1 zo348; clear zo347; (first | refine Mine.exE zo348 ?_ | refine Mine.anE zo348 ?_); intro u2 zo349; clear zo348; (first | refine Mine.exE zo349 ?_ | refine Mine.anE zo349 ?_); intro u3 zo350; clear zo349; (first | refine Mine.exE zo350 ?_ | refine Mine.anE zo350 ?_); intro hq zo351; clear zo350; (first | refine Mine.exE zo351 ?_ | refine Mine.anE zo351 ?_); intro e hTm; clear zo351; unfold gk352; clear gk352)
      subst e
      have hgoG := trivial
      (try k_unmd); walk_at "f"
      walk_at "~"
      unfold Mine.Stop
      (try k_unmd); (try dsimp only)
      with_reducible rename News g' L' _ _ => hNd
      with_reducible rename Fr g' L' _ _ => hFd
      refine Mine.lt_tup3 (hNd (T9b, Mine.tup3 (.int (x9 : Nat) u1) (.int (y9 : Nat) u2) (.int (z9 : Nat) u3)) (by walk_at "m")).1 (hNd _ (List.mem_cons_self ..)).1 (by first | ktr_units | (show un + 3 + _ < cLine; ktr_units) | (show un + 3 < cLine; ktr_units)) ?_
      rw [Mine.lt3_int]
      cases hlt : Mine.lt3 (x9, y9, z9) (a1, a2, a3)
      ·(try k_unfold); (try dsimp only)
       walk1
       (try k_unmd); (try dsimp only)
       (try k_unfold)
       (try dsimp only)
       (try rw [if_neg Bool.false_ne_true])
       exact Mine.cp_keep1 hFd hNd hNC (by rw [Mine.ahead_step hq, hlt, if_neg Bool.false_ne_true, List.append_nil]; exact hP9)
      ·(try k_unfold); (try dsimp only)
       walk1
       (try k_unmd); (try dsimp only)
       (try k_unfold)
       (try dsimp only)
       rw [if_pos rfl]
       refine Mine.rest_E ?_
       walk1
       refine append_K hFd (Mine.news_re hNd (fun p hp => List.mem_cons_of_mem _ hp)) (Upd.head (List.forall_mem_cons.mpr ⟨Nat.ne_of_gt hDC, fun p hp => Nat.ne_of_lt (hDl p hp)⟩)) ?_ (Nat.le_trans (Nat.le_trans (Nat.le_of_eq List.size_toArray) (Mine.ahead_len hk5 hP9)) (by rw [sizeLine_eq]; decide))
       clear hFd hNd
       intro h9 F9 N9
       (try k_unmd); (try k_unfold); (try dsimp only)
       exact Mine.cp_app1 F9 N9 hNC (by rw [Mine.ahead_step hq, hlt, if_pos rfl]; exact hP9.snoc' hTm)
     case donea =>
      ((repeat ((with_reducible rename Fr g' L' _ _ => Fx9); clear Fx9)); (repeat ((with_reducible rename News g' L' _ _ => Nx9); clear Nx9)))
      intro D9 c9 h tk hP9 F5 N5
      (try k_unmd); walk_at "f"
      dsimp only [List.nil_append] at hP9 N5
      replace hP9 : Mine.ShAre (Mine.aheadL kk (a1, a2, a3)) c9 os := by rw [List.size_toArray, hsh.1, List.take_length] at hP9; exact hP9
      clear hsh
      replace N5 := Mine.rd_drop2 N5
      have hgoG := trivial
      have hgoF := trivial
      (try k_unmd); (try k_unfold); (try dsimp only); walk_at "f"
      walk_at "~"
      unfold Mine.Stop
      refine' Mine.gen_eval ?_ ?gi1 ?gi2 ?gi3
      case gi1 => rfl
      case gi2 => rfl
      case gi3 => decide
      (try k_unmd); walk_at "f"
      walk_at "~"
      unfold Mine.Stop
      (try k_unmd); (try dsimp only)
      have hal : (Mine.aheadL kk (a1, a2, a3)).length ≤ 25 := Nat.le_trans (List.length_filter_le _ _) (Mine.sharesL_len hk5)
      ((first | refine Mine.exE hP9.val ?_ | refine Mine.anE hP9.val ?_); intro f9 zo353; (first | refine Mine.exE zo353 ?_ | refine Mine.anE zo353 ?_); intro hf1 hf2; clear zo353)
      have hDR : (D, W.listOf vs.toArray nn) ∈ R := by rw [hR]; exact List.mem_append.mpr (.inr hpre)
      refine Mine.gen_tup3 (σ := List Value) (rest := ?resty) (p := ?py) f9 (fun c => c) (fun c => c.length) (fun _ => []) (fun i c => IntsAre c (((Mine.aheadL kk (a1, a2, a3)).take i).map fun p => ((Mine.blockN p : Nat) : Int))) [] ?hits9 ?hT9 F5 N5 rfl rfl rfl ?hP9 ?hcell9 rfl rfl rfl rfl ?turn9 ?done9
      case hits9 =>
       intro i v hv
       ((first | refine Mine.exE (hf1 i v hv) ?_ | refine Mine.anE (hf1 i v hv) ?_); intro T zo354; (first | refine Mine.exE zo354 ?_ | refine Mine.anE zo354 ?_); intro e hm; clear zo354)
       exact ⟨T, e, by walk_at "m"⟩
      case hT9 =>
       intro it acc cenv
       exact Mine.hT1 _ _ _ _ _ _ _ _
      case hP9 => exact .nil
      case hcell9 => decide
      case turn9 =>
       ((repeat ((with_reducible rename Fr g' L' _ _ => Fx9); clear Fx9)); (repeat ((with_reducible rename News g' L' _ _ => Nx9); clear Nx9)))
       intro D8 C8 I8 c8 i8 T8 h tk oI8 oC8 mC8 hDC hDl hi8 hoI8 hP8 hNC F5 N5
       (try k_unmd); walk_at "f"
       dsimp only [List.nil_append] at hP8 N5
       refine Mine.rest_E ?_
       have hq8e : ∃ x y z, (Mine.aheadL kk (a1, a2, a3))[i8]? = some (x, y, z) := by
        have h1 : c9[i8]? = some (Value.ref T8) := by simpa using hi8
        have h2 := (List.getElem?_eq_some_iff.mp h1).1
        rw [hP9.1] at h2
        exact ⟨_, _, _, List.getElem?_eq_getElem h2⟩
       (refine Mine.foldG ?_; intro gk357; (first | refine Mine.exE hq8e ?_ | refine Mine.anE hq8e ?_); intro x8 zo355; clear hq8e; (first | refine Mine.exE zo355 ?_ | refine Mine.anE zo355 ?_); intro y8 zo356; clear zo355; (first | refine Mine.exE zo356 ?_ | refine Mine.anE zo356 ?_); intro z8 hq8; clear zo356; unfold gk357; clear gk357)
       (refine Mine.foldG ?_; intro gk360; (first | refine Mine.exE (hf2 i8 _ hq8) ?_ | refine Mine.anE (hf2 i8 _ hq8) ?_); intro u1 zo358; (first | refine Mine.exE zo358 ?_ | refine Mine.anE zo358 ?_); intro u2 zo359; clear zo358; (first | refine Mine.exE zo359 ?_ | refine Mine.anE zo359 ?_); intro u3 hf; clear zo359; unfold gk360; clear gk360)
       rw [hf] at hNC
       (try dsimp only at hNC)
       have hmx := Mine.ahead_mem (List.mem_of_getElem? hq8) hk5
       (try dsimp only at hmx)
       have hby := Mine.cn_bits hmx.2.1
       have hbz := Mine.cn_bits hmx.2.2
       ((first | refine Mine.exE hmx ?_ | refine Mine.anE hmx ?_); intro hx5 zo361; clear hmx; (first | refine Mine.exE zo361 ?_ | refine Mine.anE zo361 ?_); intro hy5 hz5; clear zo361)
       have hna : Mine.updN (Str.ofString "c_v") (Value.int (z8 : Nat) u3) (Mine.updN (Str.ofString "b") (Value.int (y8 : Nat) u2) (Mine.updN (Str.ofString "a") (Value.int (x8 : Nat) u1) mC8)) (Str.ofString "a") = some (Value.int (x8 : Nat) u1) := rfl
       have hnb : Mine.updN (Str.ofString "c_v") (Value.int (z8 : Nat) u3) (Mine.updN (Str.ofString "b") (Value.int (y8 : Nat) u2) (Mine.updN (Str.ofString "a") (Value.int (x8 : Nat) u1) mC8)) (Str.ofString "b") = some (Value.int (y8 : Nat) u2) := rfl
       have hnc : Mine.updN (Str.ofString "c_v") (Value.int (z8 : Nat) u3) (Mine.updN (Str.ofString "b") (Value.int (y8 : Nat) u2) (Mine.updN (Str.ofString "a") (Value.int (x8 : Nat) u1) mC8)) (Str.ofString "c_v") = some (Value.int (z8 : Nat) u3) := rfl
       generalize Mine.updN (Str.ofString "c_v") (Value.int (z8 : Nat) u3) (Mine.updN (Str.ofString "b") (Value.int (y8 : Nat) u2) (Mine.updN (Str.ofString "a") (Value.int (x8 : Nat) u1) mC8)) = m8 at hNC hna hnb hnc
       have hgoI := trivial
       (try k_unmd); walk_at "f"
       walk_at "~"
       have hc8 : c8.length ≤ 25 := by
        rw [hP8.length, List.length_map, List.length_take]; omega
       have hbk : (Mine.cn x8 : Int) * (Mine.cn y8 : Int) * (Mine.cn z8 : Int) = ((Mine.blockN (x8, y8, z8) : Nat) : Int) := by simp [Mine.blockN]
       rw [hbk]
       refine append_K F5 N5 (Upd.head (List.forall_mem_cons.mpr ⟨Nat.ne_of_gt hDC, fun p hp => Nat.ne_of_lt (hDl p hp)⟩)) ?_ (Nat.le_trans (Nat.le_trans (Nat.le_of_eq List.size_toArray) hc8) (by rw [sizeLine_eq]; decide))
       clear F5 N5
       intro h9 F9 N9
       (try k_unmd); (try k_unfold); (try dsimp only)
       exact Mine.cp_app1 F9 N9 hNC (by rw [Mine.blocks_step hq8]; exact Mine.ints_app hP8 _ _)
      case done9 =>
       ((repeat ((with_reducible rename Fr g' L' _ _ => Fx9); clear Fx9)); (repeat ((with_reducible rename News g' L' _ _ => Nx9); clear Nx9)))
       intro D8 c8 h tk hP8 F5 N5
       (try k_unmd); walk_at "f"
       dsimp only [List.nil_append] at hP8 N5
       replace hP8 : IntsAre c8 ((Mine.aheadL kk (a1, a2, a3)).map fun p => ((Mine.blockN p : Nat) : Int)) := by rw [List.size_toArray, hP9.1, List.take_length] at hP8; exact hP8
       clear hf1 hf2
       (try k_unmd); (try k_unfold); (try dsimp only); walk_at "f"
       walk_at "~"
       unfold Mine.Stop
       refine sumK rfl F5 N5 (News.isList N5 (List.mem_cons_self ..)) hP8 ?_
       have hsum : ((Mine.aheadL kk (a1, a2, a3)).map fun p => ((Mine.blockN p : Nat) : Int)).sum = ((Mine.aheadN (a1, a2, a3) : Nat) : Int) := by
        unfold Mine.aheadN
        rw [← hkk0]
        exact Mine.sum_cast _
       rw [hsum]
       clear hsum hP8
       clear F5 N5
       intro h6 tk6 t6 F5 N5
       replace N5 := Mine.rd_dropD N5
       (try k_unmd); (try k_unfold); (try dsimp only); walk_at "f"
       walk_at "~"
       unfold Mine.Stop
       refine storeX_L F5 N5 ?_ rfl rfl
       clear F5 N5 hP9
       intro h5 F5 N5
       (try dsimp only at F5 N5)
       have hba2 := Mine.cn_bits (a := a2) (by omega)
       have hba3 := Mine.cn_bits (a := a3) (by omega)
       have hgoI := trivial
       (try k_unmd); (try k_unfold); (try dsimp only); walk_at "f"
       walk_at "~"
       unfold Mine.Stop
       have hnum : ((Mine.aheadN (a1, a2, a3) : Nat) : Int) + ((n1 : Int) * ((Mine.cn a2 : Nat) : Int) + (n2 : Int)) * ((Mine.cn a3 : Nat) : Int) + (n3 : Int) = ((Mine.aheadN (a1, a2, a3) + (n1 * Mine.cn a2 + n2) * Mine.cn a3 + n3 : Nat) : Int) := by simp
       rw [hnum]
       clear hnum
       refine storeX_L F5 N5 ?_ rfl rfl
       clear F5 N5
       intro h7 F5 N5
       (try dsimp only at F5 N5)
       simp only [hkk] at F5
       have hsok := hsok9 ()
       rw [Mine.settleOk_go Mine.ndR ⟨g1, g2, g3⟩] at hsok
       ((first | refine Mine.exE hsok ?_ | refine Mine.anE hsok ?_); intro hx2 zo362; clear hsok; (first | refine Mine.exE zo362 ?_ | refine Mine.anE zo362 ?_); intro hx3 hsok; clear zo362)
       have hsok9 : Unit → _ := fun _ => hsok
       clear hsok
       have hq3 := (hok _ (List.mem_cons_self ..)).2
       have hq2 := (hok _ (List.mem_cons_of_mem _ (List.mem_cons_self ..))).2
       (try dsimp only at hq2 hq3)
       have hbp2 := Mine.p_bits hq2 (by omega)
       have hbp3 := Mine.p_bits hq3 (by omega)
       have hbkk : Builtin.Int.intBits ((kk : Nat) : Int) ≤ 64 := Nat.le_trans (Mine.bits_lt (m := 30) (by omega)) (by decide)
       have hv2 := Mine.hexVal_lt2 hx2
       have hv3 := Mine.hexVal_lt2 hx3
       have hlc2 : (Mine.mk [c2]).length = 1 := rfl
       have hlc3 : (Mine.mk [c3]).length = 1 := rfl
       clear hgoI
       (try k_unmd); (try k_unfold); (try dsimp only); walk_at "f"
       walk_at "~"
       unfold Mine.Stop
       with_reducible rename News g' L' _ _ => hN6
       with_reducible rename Fr g' L' _ _ => hF6
       revert hN6 hF6
       with_reducible rename Fr g' L' _ _ => hF6b
       have hPL := hF6b.ns.lt
       ((repeat ((with_reducible rename Fr g' L' _ _ => Fx9); clear Fx9)); (repeat ((with_reducible rename News g' L' _ _ => Nx9); clear Nx9)))
       intro hF6 hN6
       (try dsimp only at hN6 hF6)
       ((first | refine Mine.exE (Mine.name_1 hN6) ?_ | refine Mine.anE (Mine.name_1 hN6) ?_); intro PD2 e)
       rw [← e] at hN6 hPL ⊢
       clear e
       refine storeX_L hF6 hN6 ?_ rfl rfl
       clear hF6 hN6
       intro h8 F8 N8
       (try dsimp only at F8)
       replace N8 := Mine.rd_new N8 hxs hR
       subst hkk0
       (try k_unmd); (try k_unfold); (try dsimp only); walk_at "f"
       walk_at "~"
       unfold Mine.WlPost
       (try dsimp only)
       have hset := hset9 ()
       rw [Mine.settle_go Mine.ndR ⟨g1, g2, g3⟩] at hset
       have hq1 := (hok _ (List.mem_cons_of_mem _ (List.mem_cons_of_mem _ (List.mem_cons_self ..)))).2
       (try dsimp only at hq1)
       refine Mine.wl_end (PD2, 0, q1, q2, q3, (_, _, (_, _, _), _, _, _, _) :: r) F8 N8 (fun _ h => h) ?wk ?wr ?wp ?wm
       case wk => intro p hp; rcases List.mem_singleton.mp hp with rfl; rfl
       case wr => ksw_same
       case wm => show r.length + 1 < r.length + 1 + 1 + 1; omega
       case wp =>
        refine ⟨hPL, ⟨_, hd1⟩, ⟨_, hd2⟩, ⟨_, hd3⟩, hset, hsok9 (), ?_, ?_⟩
        ·refine Mine.okE_cons ?_ (Mine.ndR_le (n1 := n1) (n2 := n2) (n3 := n3) hq1 hq2 hq3 hk5) (fun e he => hok e (List.mem_cons_of_mem _ (List.mem_cons_of_mem _ (List.mem_cons_of_mem _ he))))
         clear hvs hok hset9 hsok9
         show Mine.hexVal c2 * 16 + Mine.hexVal c3 < 256
         omega
        ·show 2 * (a1 + a2 + a3 + 1) + 1 + Mine.weiE (Mine.absE r) = i + 1
         simp only [Mine.wei_cons] at hwe
         omega
    ·
     have hset := (hset9 ()).symm.trans (Mine.settle_stop Mine.ndR hgo)
     by_cases hc1 : c1 = 61
     ·have hni : (!([Mine.mk [c2], Mine.mk [c3]].any (· == Str.ofString "="))) = false := by
       have h23 : c2 = 61 ∨ c3 = 61 := by
        by_cases h2 : c2 = 61
        ·exact .inl h2
        ·by_cases h3 : c3 = 61
         ·exact .inr h3
         ·exact absurd ⟨hc1, h2, h3⟩ hgo
       simp only [List.any_cons, List.any_nil, he2, he3]
       rcases h23 with h | h <;> simp [h]
      rw [decide_eq_true hc1] at he1
      clear N8 he2 he3 hgo
      walk_at "~"
      (try k_unmd); (try k_unfold)
      unfold Mine.LpPost
      (try dsimp only)
      with_reducible rename News g' L' _ _ => hNx
      refine Mine.rd_lp (by k_asm) (Mine.rd_close hNx (fun q hq => List.mem_cons_of_mem _ hq) hxs hR) ho1 ho2 ho3 (if_pos rfl) (by kst_same) ⟨hPD, ho1, ho2, ho3, hset.symm, hok, hwe⟩
     ·rw [decide_eq_false hc1] at he1
      clear he2 he3 hgo
      walk_at "~"
      (try k_unmd); (try k_unfold)
      unfold Mine.LpPost
      (try dsimp only)
      refine Mine.rd_lp (by k_asm) N8 ho1 ho2 ho3 (if_pos rfl) (by kst_same) ⟨hPD, ho1, ho2, ho3, hset.symm, hok, hwe⟩
 case done =>
  ((repeat ((with_reducible rename Fr g' L' _ _ => Fx9); clear Fx9)); (repeat ((with_reducible rename News g' L' _ _ => Nx9); clear Nx9)))
  clear ho1 ho2 ho3 hPD0
  refine Mine.tq6 ?_
  intro PD nl o1 o2 o3 es u2 h tk hP F5 N5
  (try k_unmd); walk_at "f"
  (try dsimp only at hP N5)
  (refine Mine.foldG ?_; intro gk368; (first | refine Mine.exE hP ?_ | refine Mine.anE hP ?_); intro hPD zo363; clear hP; (first | refine Mine.exE zo363 ?_ | refine Mine.anE zo363 ?_); intro ho1 zo364; clear zo363; (first | refine Mine.exE zo364 ?_ | refine Mine.anE zo364 ?_); intro ho2 zo365; clear zo364; (first | refine Mine.exE zo365 ?_ | refine Mine.anE zo365 ?_); intro ho3 zo366; clear zo365; (first | refine Mine.exE zo366 ?_ | refine Mine.anE zo366 ?_); intro habs zo367; clear zo366; (first | refine Mine.exE zo367 ?_ | refine Mine.anE zo367 ?_); intro hok hwe; clear zo367; unfold gk368; clear gk368)
  have hfull : x.take (Mine.mk x).cps.size = x := by
   rw [show (Mine.mk x).cps.size = x.length from Mine.mk_length x, List.take_length]
  rw [hfull, hx, Mine.read_tree Mine.ndR Mine.eR T9 s9 hs9] at habs
  dsimp only [kstB] at F5
  (refine Mine.foldG ?_; intro gk376; (first | refine Mine.exE (Mine.one_ent habs) ?_ | refine Mine.anE (Mine.one_ent habs) ?_); intro T zo369; (first | refine Mine.exE zo369 ?_ | refine Mine.anE zo369 ?_); intro c zo370; clear zo369; (first | refine Mine.exE zo370 ?_ | refine Mine.anE zo370 ?_); intro d1 zo371; clear zo370; (first | refine Mine.exE zo371 ?_ | refine Mine.anE zo371 ?_); intro t1' zo372; clear zo371; (first | refine Mine.exE zo372 ?_ | refine Mine.anE zo372 ?_); intro t2' zo373; clear zo372; (first | refine Mine.exE zo373 ?_ | refine Mine.anE zo373 ?_); intro t3' zo374; clear zo373; (first | refine Mine.exE zo374 ?_ | refine Mine.anE zo374 ?_); intro t4' zo375; clear zo374; unfold gk376; clear gk376; subst zo375)
  have hcd : c = s9 ∧ d1 = Mine.rankT T9 := by
   have h1 := (List.cons.inj habs).1
   exact ⟨congrArg Prod.fst h1, congrArg Prod.snd h1⟩
  ((first | refine Mine.exE hcd ?_ | refine Mine.anE hcd ?_); intro zo377 zo378; clear hcd; subst zo377; subst zo378)
  simp only [List.reverse_cons, List.reverse_nil, List.nil_append, List.map_cons, List.map_nil, List.cons_append] at N5
  (refine Mine.nameE (a := (Mine.entO (T, c, Mine.rankT T9, t1', t2', t3', t4'))) ?_; intro on hon)
  rw [← hon] at N5
  clear hok hwe habs hfull
  (try k_unmd); (try dsimp only); walk_at "f"
  walk_at "~"
  with_reducible rename News h₀ L _ _ => hN9
  with_reducible rename Fr h₀ L _ _ => hF9
  refine hret _ [Mine.entO (T, c, Mine.rankT T9, t1', t2', t3', t4')] _ _ ⟨T, t1', t2', t3', t4', rfl, rfl⟩ hF9 (Mine.news_re hN9 (by rw [hon]; walk_at "n"))
end
end
section
section
local macro_rules | `(tactic| l_ints) => `(tactic| first | (with_reducible assumption) | (with_reducible exact IntsAre.nil) | (with_reducible exact IntsAre.cons _ _ (by l_ints)) | assumption)
set_option maxHeartbeats 8000000 in
theorem Mine.tally_c (w : World) (c : Nat) (hc : c < 256) (t0 : Tok) :
  Mine.Ctr w 125 30 400 [.str (Mine.mk [c]) t0] (fun _ => True) (fun r tl => ∃ D us os, r = .ref D ∧ tl = (D, W.listOf us.toArray us.length) :: os ∧ Mine.NestI Mine.tallyV us os) := by
 k_with_none
 k_with "storeName" => (k_here; (with_reducible show wpAny _ _ (storeName _ _ _) _ _ _); k_dflt (refine' Mine.storeF ?Fw164 ?Nw164 ?_ ?aw164 ?bw164; (case Fw164 => k_asm); (case Nw164 => k_asm); (case aw164 => exact Eq.refl ScopeKind.function); (case bw164 => exact Eq.refl (some NameKind.local)); k_whole; intro h7s m7s F7s N7s; (try k_sweep)))
 k_with "eval Name" => (k_here; (with_reducible show wpAny _ _ (eval (Expr.Name _ _) _) _ _ _); k_dflt (refine' nameX_L ?Fw165 ?vw165 ?_ ?aw165 ?bw165; (case Fw165 => k_asm); (case aw165 => exact Eq.refl ScopeKind.function); (case bw165 => exact Eq.refl (some NameKind.local)); (case vw165 => exact Eq.refl (some _)); k_whole))
 k_with "eval ListComp" => (k_here; k_dflt (refine' Mine.comp_eval ?_ ?c1w166 ?c2w166 ?c3w166; (case c1w166 => rfl); (case c2w166 => rfl); (case c3w166 => decide); k_whole))
 k_with "eval Name" => (k_here; (with_reducible show wpAny _ _ (eval (PySem.Expr.Name _ _) (compEnvC _ _ _ _)) _ _ _); k_dflt (first
 | (refine' Mine.cname_L ?k1w167 ?k2w167 ?k3w167 ?k4w167 ?_ ?k5w167 ?k6w167 ?k7w167; (case k6w167 => rfl); (case k5w167 => rfl); (case k7w167 => decide); (case k1w167 => k_asm); (case k3w167 => assumption); (case k2w167 => k_mem); (case k4w167 => exact rfl); k_whole)
 | (refine' Mine.cname_C ?k1w167 ?k2w167 ?k3w167 ?k4w167 ?_ ?k5w167 ?k6w167 ?k7w167; (case k6w167 => rfl); (case k5w167 => rfl); (case k7w167 => decide); (case k2w167 => rfl); (case k1w167 => k_asm); (case k3w167 => k_mem); (case k4w167 => k_asm); k_whole)
 | (refine' Mine.cname_G ?k1w167 ?k2w167 ?k3w167 ?k4w167 ?_ ?k5w167 ?k6w167 ?k7w167 ?k8w167; (case k7w167 => rfl); (case k6w167 => rfl); (case k5w167 => rfl); (case k8w167 => decide); (case k1w167 => k_asm); (case k2w167 => k_asm); (case k3w167 => k_asm); (case k4w167 => k_is); k_whole)
 | (refine' Mine.cname_B ?k1w167 ?k2w167 ?k3w167 ?k4w167 ?k5w167 ?k6w167 ?_ ?k7w167 ?k8w167 ?k9w167 ?k10w167 ?k11w167; (case k10w167 => rfl); (case k9w167 => rfl); (case k7w167 => rfl); (case k8w167 => rfl); (case k11w167 => decide); (case k1w167 => k_asm); (case k2w167 => k_asm); (case k3w167 => k_asm); (case k4w167 => k_is); (case k5w167 => boot_by_name); (case k6w167 => decide); k_whole)))
 k_with "call builtin:list.append" => (k_here; (with_reducible show wpAny _ _ (call (Value.builtin _) [Value.ref _, _]) _ _ _); k_dflt (refine' append_K ?k1w168 ?k2w168 ?k3w168 ?_ ?zw168; (case k1w168 => k_asm); (case k2w168 => k_asm); (case k3w168 => (first | (refine' Upd.head ?kh3w168; (case kh3w168 => (repeat' (first | (with_reducible assumption) | exact List.forall_mem_nil _ | (refine List.forall_mem_cons.mpr ⟨(by (first | (with_reducible assumption) | exact Nat.ne_of_lt (by with_reducible assumption) | exact Nat.ne_of_gt (by with_reducible assumption) | exact Ne.symm (by with_reducible assumption) | k_ne)), ?_⟩))))) | (refine' Upd.tail ?ka3w168 ?kb3w168; (case ka3w168 => (first | (with_reducible assumption) | exact Nat.ne_of_lt (by with_reducible assumption) | exact Nat.ne_of_gt (by with_reducible assumption) | exact Ne.symm (by with_reducible assumption) | k_ne)); (case kb3w168 => (first | (refine' Upd.head ?kh2w168; (case kh2w168 => (repeat' (first | (with_reducible assumption) | exact List.forall_mem_nil _ | (refine List.forall_mem_cons.mpr ⟨(by (first | (with_reducible assumption) | exact Nat.ne_of_lt (by with_reducible assumption) | exact Nat.ne_of_gt (by with_reducible assumption) | exact Ne.symm (by with_reducible assumption) | k_ne)), ?_⟩))))) | (refine' Upd.tail ?ka2w168 ?kb2w168; (case ka2w168 => (first | (with_reducible assumption) | exact Nat.ne_of_lt (by with_reducible assumption) | exact Nat.ne_of_gt (by with_reducible assumption) | exact Ne.symm (by with_reducible assumption) | k_ne)); (case kb2w168 => (first | (refine' Upd.head ?kh1w168; (case kh1w168 => (repeat' (first | (with_reducible assumption) | exact List.forall_mem_nil _ | (refine List.forall_mem_cons.mpr ⟨(by (first | (with_reducible assumption) | exact Nat.ne_of_lt (by with_reducible assumption) | exact Nat.ne_of_gt (by with_reducible assumption) | exact Ne.symm (by with_reducible assumption) | k_ne)), ?_⟩))))) | (refine' Upd.tail ?ka1w168 ?kb1w168; (case ka1w168 => (first | (with_reducible assumption) | exact Nat.ne_of_lt (by with_reducible assumption) | exact Nat.ne_of_gt (by with_reducible assumption) | exact Ne.symm (by with_reducible assumption) | k_ne)); (case kb1w168 => (fail))))))))))); (case zw168 => first | size_fits | (refine Nat.le_trans (m := 100000) (by simp only [List.size_toArray]; omega) (by decide))); k_whole); intro h' F' N')
 k_with "eval Dict" => (k_here; k_dflt (refine' kdn_eval (knd := PySem.strKind _ _) ?Fw169 ?Nw169 ?bw169 ?aw169 ?lw169 ?ew169 ?nw169 ?_; (case Fw169 => k_asm); (case Nw169 => first | k_asm | exact News.nil); (case bw169 => exact Top.nolimit (by k_asm)); (case aw169 => rfl); (case lw169 => rfl); (case ew169 => exact List.cons_ne_nil _ _); (case nw169 => exact Nat.le_of_ble_eq_true rfl)); intro d' h' o' F' N' l1 lo' hd'; (try k_lt l1))
 k_with "exec For Name Name cons nil" => (k_here; (rename Fr _ _ _ _ => lF'); (with_unfolding_all refine' For_invVF lF' ?k1w170 ?k2w170 ?_; (case k1w170 => exact rfl); (case k2w170 => exact rfl); k_whole))
 k_with "setItem ref str" => (k_here; (with_reducible show wpAny _ _ (setItem (Value.ref _) (Value.str _ _) (Value.int _ _)) _ _ _); k_dflt (refine' kdp_setItem ?Fw171 ?Nw171 (UpdF.head ?Uw171) ?dw171 ?fw171 ?zw171 ?_; (case Fw171 => k_asm); (case Nw171 => k_asm); (case Uw171 => (repeat' (first | (with_reducible assumption) | exact List.forall_mem_nil _ | (refine List.forall_mem_cons.mpr ⟨(by first | with_reducible assumption | exact Nat.ne_of_lt (by with_reducible assumption) | exact Nat.ne_of_gt (by with_reducible assumption)), ?_⟩)))); (case dw171 => k_asm); (case fw171 => k_asm); (case zw171 => first | omega | kdp_size); k_whole); intro h9 o9 kvs9 F9 N9 hd9 hf9; (try dsimp only at N9))
 k_with "eval ListComp" => (k_here; refine Mine.stop ?_)
 k_with "pyIter ref" => (k_here; refine Mine.stop ?_)
 k_with "exec For Name Name cons nil" => (k_here; (rename Fr _ _ _ _ => lF'); (with_unfolding_all refine' For_invVF lF' ?k1w174 ?k2w174 ?_; (case k1w174 => exact rfl); (case k2w174 => exact rfl); k_whole))
 k_with "call builtin:list.append" => (k_here; have hgo9 := hgoA; clear hgo9; refine Mine.stop ?_)
 k_with "subscriptTail" => (k_here; have hgo9 := hgoT; clear hgo9; (with_reducible show wpAny _ _ (subscriptTail _ _ (Value.ref _) (Value.int (-2) _)) _ _ _); k_dflt (refine' Mine.item_two2 (xs := xs) (a := Value.ref A) (b := Value.ref AN) ?k1w176 ?_ ?k6w176; (case k1w176 => (refine' News.isList ?n1w176 ?n2w176; (case n1w176 => k_asm); (case n2w176 => k_mem))); (case k6w176 => with_unfolding_all rfl); k_whole))
 k_with "subscriptTail" => (k_here; have hgo9 := hgoT; clear hgo9; (with_reducible show wpAny _ _ (subscriptTail _ _ (Value.ref _) (Value.int (-1) _)) _ _ _); k_dflt (refine' Mine.item_two1 (xs := xs) (a := Value.ref A) (b := Value.ref AN) ?k1w177 ?_ ?k6w177; (case k1w177 => (refine' News.isList ?n1w177 ?n2w177; (case n1w177 => k_asm); (case n2w177 => k_mem))); (case k6w177 => with_unfolding_all rfl); k_whole))
 k_with "call ref" => (k_here; (with_reducible show wpAny _ _ (call (Value.ref 120) _) _ _ _); walk_at "f"; k_dflt (refine' Mine.put_f _ _ ?c1w178 _ _ ?c2w178 ?c3w178 _ _ _ _ _ _ _ _ _ _ _ _ _ _ _ _ _ _ _ _ _ _ _ _ _ ?kBw178 ?kFw178 ?kXw178 ?kNw178 ?kTw178 ?kKw178 ?kPw178 ?kdw178 ?kuw178 ?_; (case kBw178 => k_asm); (case kFw178 => k_asm); (case kXw178 => k_asm); (case kNw178 => k_asm); (case kTw178 => k_asm); (case kKw178 => first | exact rfl | assumption); (case kPw178 => trivial); (case kdw178 => first | exact Mine.oDp (by with_reducible assumption) (by exact rfl) | exact Mine.oDq (by with_reducible assumption) (by exact rfl) | omega | ktr_room); (case kuw178 => first | exact Mine.oDp (by with_reducible assumption) (by exact rfl) | exact Mine.oDq (by with_reducible assumption) (by exact rfl) | omega | ktr_units); (case c1w178 => assumption); (case c2w178 => assumption); (case c3w178 => assumption); k_whole); intro v9 tl9 h9 tk9 hp9 F9 N9; (try dsimp only at hp9); (((first | refine Mine.exE hp9 ?_ | refine Mine.anE hp9 ?_); intro e1 zo379; clear hp9; (first | refine Mine.exE zo379 ?_ | refine Mine.anE zo379 ?_); intro k9 e2; clear zo379); cases e1; cases e2); (try dsimp only [List.nil_append, List.cons_append] at N9); (try dsimp only); walk_at "f")
 k_with "call ref" => (k_here; (with_reducible show wpAny _ _ (call (Value.ref 57) _) _ _ _); walk_at "f"; k_dflt (refine' Mine.dec_f _ _ ?c1w179 _ ?c2w179 ?c3w179 _ _ _ _ _ _ _ _ _ _ _ _ _ _ _ _ _ _ _ _ _ _ _ _ ?kBw179 ?kFw179 ?kXw179 ?kNw179 ?kTw179 ?kKw179 ?kPw179 ?kdw179 ?kuw179 ?_; (case kBw179 => k_asm); (case kFw179 => k_asm); (case kXw179 => k_asm); (case kNw179 => k_asm); (case kTw179 => k_asm); (case kKw179 => first | exact rfl | assumption); (case kPw179 => trivial); (case kdw179 => first | exact Mine.oDp (by with_reducible assumption) (by exact rfl) | exact Mine.oDq (by with_reducible assumption) (by exact rfl) | omega | ktr_room); (case kuw179 => first | exact Mine.oDp (by with_reducible assumption) (by exact rfl) | exact Mine.oDq (by with_reducible assumption) (by exact rfl) | omega | ktr_units); (case c1w179 => assumption); (case c2w179 => assumption); (case c3w179 => assumption); k_whole); intro v9 tl9 h9 tk9 hp9 F9 N9; (try dsimp only at hp9); (((first | refine Mine.exE hp9 ?_ | refine Mine.anE hp9 ?_); intro e1 zo380; clear hp9; (first | refine Mine.exE zo380 ?_ | refine Mine.anE zo380 ?_); intro k9 e2; clear zo380); cases e1; cases e2); (try dsimp only [List.nil_append, List.cons_append] at N9); (try dsimp only); walk_at "f")
 k_with "call builtin:len" => (k_here; have hgo9 := hgoL; clear hgo9; refine Mine.stop ?_)
 (unfold Mine.Ctr; k_fill; intro p loose mean mg mb dp un gd cn cs a ccd cl outer A₀ base h₀ L m news s Q E B F X N T hk hpre hd hu hret; refine wpAny_call ?_; k_dflt (refine' code_defC (binds := [(Str.ofString "sign", Value.str (Mine.mk [c]) t0)]) ?k1 ?k2 ?k3 ?k4 ?k5 ?kA ?kF ?kK ?k6 ?k7 ?k8 ?k9 ?kB ?kD ?_ ?c2 ?c3 ?c4; (case kA => exact rfl); (case kF => exact rfl); (case kK => assumption); (case k1 => k_asm); (case k2 => k_asm); (case k3 => k_asm); (case k4 => k_asm); (case k5 => k_asm); (case k6 => k_is); (case k7 => k_is); (case k8 => ktr_room); (case k9 => first | exact BindsTo.of_eq (by kernel_rfl) | exact binds_K (by k_in) rfl (by k_is) rfl rfl rfl); (case kB => exact rfl); (case kD => decide +kernel); (case c2 => exact rfl); (case c3 => exact rfl); (case c4 => exact rfl); k_whole; intro g' L' h' tk' cells' FG' F' N' Y' B' X' T' l1; k_cells Y'; (try dsimp only [List.cons_append, List.nil_append] at N'); (try dsimp only); walk_at "f"))
 (replace F' : Fr g' L' h' (kstB (fun _ => none) [(Str.ofString "sign", Value.str (Mine.mk [c]) t0)]) := Mine.fr_same F' (by kernel_rfl))
 dsimp only [kstB] at F'
 (refine Mine.foldA ?_; intro ak)
 have o1 : ∀ p ∈ news, p.1 ≠ L' + 1 := fun p hp => Nat.ne_of_lt (Nat.lt_succ_of_lt (l1 p hp))
 have o2 : ∀ p ∈ news, p.1 ≠ L' + 1 + 1 := fun p hp => Nat.ne_of_lt (Nat.lt_succ_of_lt (Nat.lt_succ_of_lt (l1 p hp)))
 walk_at "~"
 unfold Mine.Stop
 (try k_unmd); (try dsimp only)
 with_reducible rename News g' L' _ _ => hN2
 with_reducible rename Fr g' L' _ _ => hF2
 with_reducible rename IsRange _ _ _ _ _ _ _ _ => hR
 with_reducible rename (_ == sysModules) = false => hlo
 with_reducible rename PyProof.V.FlatPairs _ _ _ => hfp
 with_reducible rename Obj.IsDictOf _ _ (strPairs _) => hdd
 rw [Mine.start_text] at *
 have hTD : Mine.TD PySem.Challenge.rw_ku0016_01.row.prog w _ [(Mine.kT c .leaf, 0)] := ⟨_, hdd, hfp⟩
 clear hdd hfp
 replace hN2 := Mine.rd_dropT hN2
 ((first | refine Mine.exE (Mine.name_1 hN2) ?_ | refine Mine.anE (Mine.name_1 hN2) ?_); intro LV e)
 subst e
 ((first | refine Mine.exE (Mine.name_2 hN2) ?_ | refine Mine.anE (Mine.name_2 hN2) ?_); intro A0 e)
 subst e
 ((first | refine Mine.exE (Mine.name_3 hN2) ?_ | refine Mine.anE (Mine.name_3 hN2) ?_); intro KD e)
 subst e
 with_reducible rename _ = Data.cell (some (Value.ref LV)) => hoL
 with_reducible rename _ = Data.cell (some (Value.ref KD)) => hoK
 with_reducible rename A0 < LV ∧ _ => hq1
 have hLV : L' + 1 + 1 < LV := hq1.2.2.1
 have hA0 : A0 ≠ LV := Nat.ne_of_lt hq1.1
 clear hq1
 with_reducible rename L' + 1 + 1 < KD ∧ _ => hq2
 have hKD : L' + 1 + 1 < KD := hq2.1
 clear hq2
 revert hN2 hF2
 ((repeat ((with_reducible rename Fr g' L' _ _ => Fx9); clear Fx9)); (repeat ((with_reducible rename News g' L' _ _ => Nx9); clear Nx9)))
 intro hF2 hN2
 (refine Mine.foldG ?_; intro gk387; (first | refine Mine.exE (Mine.ty_names hN2) ?_ | refine Mine.anE (Mine.ty_names hN2) ?_); intro t9 zo381; (first | refine Mine.exE zo381 ?_ | refine Mine.anE zo381 ?_); intro oK0 zo382; clear zo381; (first | refine Mine.exE zo382 ?_ | refine Mine.anE zo382 ?_); intro oL zo383; clear zo382; (first | refine Mine.exE zo383 ?_ | refine Mine.anE zo383 ?_); intro oN zo384; clear zo383; (first | refine Mine.exE zo384 ?_ | refine Mine.anE zo384 ?_); intro e1 zo385; clear zo384; (first | refine Mine.exE zo385 ?_ | refine Mine.anE zo385 ?_); intro e2 zo386; clear zo385; (first | refine Mine.exE zo386 ?_ | refine Mine.anE zo386 ?_); intro e3 e4; clear zo386; unfold gk387; clear gk387)
 subst e1 e2 e3 e4
 refine Mine.for_range (σ := Mine.TyS) (Mine.tyOwn LV KD) ((L' + 1 + 1, oL) :: (L' + 1, oN) :: news) (fun c => []) [Str.ofString "grown"] (Mine.tyP PySem.Challenge.rw_ku0016_01.row.prog w c LV) (oK0, 0, [(.leaf, 0)], [(A0, 0, [.str (Mine.kT c .leaf) t9], [.leaf])]) hF2 ?hN hR (by decide) rfl ?hk ?hp ?turn ?done
 case hN => exact Mine.news_re hN2 (by intro p hp; simp only [Mine.tyOwn, Mine.levO, Mine.levR, List.map_cons, List.map_nil, List.reverse_cons, List.reverse_nil, List.nil_append, List.cons_append, List.mem_cons] at hp ⊢; rcases hp with h | h | h | h | h | h <;> simp only [h, true_or, or_true])
 case hk => intro p hp; cases hp
 case hp => exact ⟨hTD, rfl, rfl, fun e he => by rw [List.mem_singleton.mp he]; exact ⟨.cons _ _ .nil, hA0⟩⟩
 case turn =>
  clear hTD hN2 hF2 hR hA0
  refine Mine.tq4 ?_
  intro oK nl kn lv i ti u2 I h tk oI hi hoI hP F5 N5
  (try k_unmd); walk_at "f"
  (refine Mine.foldG ?_; intro gk390; (first | refine Mine.exE hP ?_ | refine Mine.anE hP ?_); intro hTD zo388; clear hP; (first | refine Mine.exE zo388 ?_ | refine Mine.anE zo388 ?_); intro hkn zo389; clear zo388; (first | refine Mine.exE zo389 ?_ | refine Mine.anE zo389 ?_); intro hlv hev; clear zo389; unfold gk390; clear gk390)
  (try dsimp only at hTD hkn hlv hev)
  (refine Mine.foldG ?_; intro gk395; (first | refine Mine.exE (Mine.lev_split hi hlv) ?_ | refine Mine.anE (Mine.lev_split hi hlv) ?_); intro A zo391; (first | refine Mine.exE zo391 ?_ | refine Mine.anE zo391 ?_); intro n zo392; clear zo391; (first | refine Mine.exE zo392 ?_ | refine Mine.anE zo392 ?_); intro vs zo393; clear zo392; (first | refine Mine.exE zo393 ?_ | refine Mine.anE zo393 ?_); intro rest zo394; clear zo393; unfold gk395; clear gk395; subst zo394)
  dsimp only [kstB] at F5
  (refine Mine.nameE (a := rest.reverse.map Mine.levR) ?_; intro xs hxs)
  (refine Mine.nameE (a := rest.map Mine.levO ++ news) ?_; intro R hR)
  have N6 : News g' L' h _ := Mine.ty_open N5 hxs hR
  have F6 : Fr g' L' h _ := F5
  clear N5 F5
  have hcL : Mine.cellO oL := ⟨_, hoL⟩
  have hcN : Mine.cellO oN := ⟨_, hoK⟩
  have xI : I ≠ LV := Mine.iter_ne2 N6 (by k_mem) (by k_mem) hoI (Mine.isIter_cls rfl (by decide))
  have xK : KD ≠ LV := Mine.ne_obj N6 (oa := oK) (by k_mem) (by k_mem) (Mine.td_list hTD)
  have xA : A ≠ LV := (hev _ (List.mem_cons_self ..)).2
  have xR : ∀ p ∈ R, p.1 ≠ LV := Mine.lev_off hR (fun e he => (hev e (List.mem_cons_of_mem _ he)).2) l1 (Nat.lt_of_succ_lt (Nat.lt_of_succ_lt hLV))
  have x2 : L' + 1 + 1 ≠ LV := Nat.ne_of_lt hLV
  have x1 : L' + 1 ≠ LV := Nat.ne_of_lt (Nat.lt_of_succ_lt hLV)
  have hgoA := trivial
  (try k_unmd); walk_at "f"
  walk_at "~"
  unfold Mine.Stop
  (try k_unmd); (try dsimp only)
  with_reducible rename News g' L' _ _ => hNa
  with_reducible rename Fr g' L' _ _ => hFa
  with_reducible rename KD < _ ∧ _ => hql
  ((first | refine Mine.exE (Mine.name_1 hNa) ?_ | refine Mine.anE (Mine.name_1 hNa) ?_); intro AN e)
  subst e
  (refine Mine.foldG ?_; intro gk401; (first | refine Mine.exE hql ?_ | refine Mine.anE hql ?_); intro qK zo396; clear hql; (first | refine Mine.exE zo396 ?_ | refine Mine.anE zo396 ?_); intro qL zo397; clear zo396; (first | refine Mine.exE zo397 ?_ | refine Mine.anE zo397 ?_); intro qI zo398; clear zo397; (first | refine Mine.exE zo398 ?_ | refine Mine.anE zo398 ?_); intro q2 zo399; clear zo398; (first | refine Mine.exE zo399 ?_ | refine Mine.anE zo399 ?_); intro q1 zo400; clear zo399; (first | refine Mine.exE zo400 ?_ | refine Mine.anE zo400 ?_); intro qA qR; clear zo400; unfold gk401; clear gk401)
  have qR2 := Mine.allLt_of2 qR
  clear qR
  have hxl : xs.length ≤ 3 := Mine.lev_len hi hlv hxs
  refine append_K hFa hNa (Upd.tail (Nat.ne_of_gt qL) (Upd.tail xK (Upd.head (List.forall_mem_cons.mpr ⟨xI, List.forall_mem_cons.mpr ⟨x2, List.forall_mem_cons.mpr ⟨x1, List.forall_mem_cons.mpr ⟨xA, xR⟩⟩⟩⟩)))) ?_ (by simp only [List.size_toArray, List.length_append, List.length_cons, List.length_nil]; rw [sizeLine_eq]; omega)
  revert hFa hNa
  ((repeat ((with_reducible rename Fr g' L' _ _ => Fx9); clear Fx9)); (repeat ((with_reducible rename News g' L' _ _ => Nx9); clear Nx9)))
  intro hFa hNa
  clear hFa hNa hgoA
  intro h2 F2 N2
  replace N2 := Mine.ty_two N2
  (try k_unmd); (try k_unfold); (try dsimp only); walk_at "f"
  walk_at "~"
  unfold Mine.Stop
  refine' Mine.gen_eval ?_ ?ga1 ?ga2 ?ga3
  case ga1 => rfl
  case ga2 => rfl
  case ga3 => decide
  have hgoT := trivial
  (try k_unmd); walk_at "f"
  walk_at "~"
  unfold Mine.Stop
  (try k_unmd); (try dsimp only)
  with_reducible rename Fr g' L' _ _ => F2
  (refine Mine.foldG ?_; intro gk405; (first | refine Mine.exE (Mine.last_facts i hi) ?_ | refine Mine.anE (Mine.last_facts i hi) ?_); intro hl0 zo402; (first | refine Mine.exE zo402 ?_ | refine Mine.anE zo402 ?_); intro hl3 zo403; clear zo402; (first | refine Mine.exE zo403 ?_ | refine Mine.anE zo403 ?_); intro hls zo404; clear zo403; (first | refine Mine.exE zo404 ?_ | refine Mine.anE zo404 ?_); intro hlg hlg0; clear zo404; unfold gk405; clear gk405)
  refine Mine.gen_list1 (σ := List Value) (rest := ?resta) (p := ?pa) (fun c => c) (fun c => c.length) (fun _ => []) (fun j us => StrsAre us ((Mine.grownT ((Mine.lastT i).take j)).map (Mine.kT c))) [] ?hTa F2 (Mine.ty_src N2) rfl rfl rfl ?hPa ?hca rfl rfl ?turna ?donea
  case hTa =>
   intro it acc cenv
   exact Mine.hT2 _ _ _ _ _ _ _ _ _ _
  case hPa => exact .nil
  case hca => decide
  case turna =>
   ((repeat ((with_reducible rename Fr g' L' _ _ => Fx9); clear Fx9)); (repeat ((with_reducible rename News g' L' _ _ => Nx9); clear Nx9)))
   intro D C I8 us i8 v8 h tk oI8 oC8 mC8 hDC hDl hi8 hoI8 hP8 hNC F5 N5
   (try k_unmd); walk_at "f"
   dsimp only [List.nil_append] at hP8 N5
   refine Mine.rest_N rfl (fun _ => rfl) ?_
   (refine Mine.foldG ?_; intro gk409; (first | refine Mine.exE (Mine.strs_get (hev _ (List.mem_cons_self ..)).1 (by simpa using hi8)) ?_ | refine Mine.anE (Mine.strs_get (hev _ (List.mem_cons_self ..)).1 (by simpa using hi8)) ?_); intro y8 zo406; (first | refine Mine.exE zo406 ?_ | refine Mine.anE zo406 ?_); intro t8 zo407; clear zo406; (first | refine Mine.exE zo407 ?_ | refine Mine.anE zo407 ?_); intro hy8 zo408; clear zo407; unfold gk409; clear gk409; subst zo408)
   obtain ⟨t, ht, rfl⟩ : ∃ t, (Mine.lastT i)[i8]? = some t ∧ y8 = Mine.kT c t := by
    rw [List.getElem?_map] at hy8
    cases hq : (Mine.lastT i)[i8]? with
    | none => rw [hq] at hy8; cases hy8
    | some t => rw [hq] at hy8; exact ⟨t, rfl, (Option.some.inj hy8).symm⟩
   have hst : Mine.size t = i := hls t (List.mem_of_getElem? ht)
   have hst5 : Mine.size t ≤ 5 := by rw [hst]; exact Nat.le_trans (Nat.le_of_lt hi) (by decide)
   have hlen := Mine.kT_len c t
   clear hy8
   (try k_unmd); walk_at "f"
   walk_at "~"
   unfold Mine.Stop
   with_reducible rename IsRange _ _ _ _ _ _ _ _ => hR2
   with_reducible rename Fr g' L' _ _ => hF2
   with_reducible rename News g' L' _ _ => hN2
   rw [hlen, show (((2 * Mine.size t + 2 : Nat) : Int) - 1) = ((1 + 2 * Mine.size t : Nat) : Int) by omega] at hR2
   refine Mine.inner_range (σ := List Value) (x := Str.ofString "place") (rest := ?restw) (px := ?pxw) (p := ?pw) (fun m => m (Str.ofString "text") = some (.str (Mine.kT c t) t8)) (fun us => [(D, W.listOf us.toArray us.length)]) ((I8, oI8) :: (A, W.listOf vs.toArray n) :: (AN, W.listOf #[] 0) :: (KD, oK) :: (LV, W.listOf (xs ++ [Value.ref A, Value.ref AN]).toArray (nl + 1)) :: (I, oI) :: (L' + 1 + 1, oL) :: (L' + 1, oN) :: R)
    (fun j us => StrsAre us ((Mine.grownT ((Mine.lastT i).take i8) ++ (List.range j).map (Mine.putT t)).map (Mine.kT c))) us ?hTw hF2 ?hNw hNC ?hJ0 ?hJu ?hCt ?hCo hR2 ?hnw rfl ?hPw rfl rfl ?turnw ?donew
   case hTw =>
    intro it
    exact Mine.hT2' _ _ _ _ _ _ _ _ _ _
   case hJ0 => exact if_pos rfl
   case hJu => intro v mC h; exact (if_neg (by decide)).trans h
   case hnw => omega
   case hNw => exact Mine.news_re hN2 (by walk_at "n")
   case hCt =>
    intro p hp
    exact Nat.ne_of_lt (Nat.lt_trans (hDl p hp) hDC)
   case hCo => intro hm; rw [List.map_singleton] at hm; exact Nat.ne_of_gt hDC (List.mem_singleton.mp hm)
   case hPw => simpa using hP8
   case turnw =>
    ((repeat ((with_reducible rename Fr g' L' _ _ => Fx9); clear Fx9)); (repeat ((with_reducible rename News g' L' _ _ => Nx9); clear Nx9)))
    clear hR2
    intro I2 us j tj h tk oI2 oC mC hj hoI2 hPj hNC hJ F5 N5
    (try k_unmd); walk_at "f"
    refine Mine.rest_E ?_
    dsimp only [List.nil_append, List.cons_append] at N5 hPj
    have hgoA := trivial
    (try k_unmd); walk_at "f"
    walk_at "~"
    unfold Mine.Stop
    with_reducible rename News g' L' _ _ => hNa
    with_reducible rename Fr g' L' _ _ => hFa
    have hul : us.length ≤ 15 := by
     rw [hPj.len_eq, List.length_map]
     exact Nat.le_trans (Mine.grown_le ht (Nat.le_of_lt hj)) hlg
    have xI2 : I2 ≠ D := Mine.iter_ne2 hNa (by k_mem) (List.mem_cons_self ..) hoI2 (Mine.isIter_cls rfl (by decide))
    refine append_K hFa hNa (Upd.head (List.forall_mem_cons.mpr ⟨Nat.ne_of_gt hDC, List.forall_mem_cons.mpr ⟨xI2, fun p hp => Nat.ne_of_lt (hDl p hp)⟩⟩)) ?_ (Nat.le_trans (Nat.le_trans (Nat.le_of_eq List.size_toArray) hul) (by rw [sizeLine_eq]; decide))
    clear hFa hNa
    intro h9 F9 N9
    (try k_unmd); (try k_unfold); (try dsimp only)
    exact Mine.cp_appJ1 F9 N9 hNC (by
     have e : (Mine.grownT ((Mine.lastT i).take i8) ++ (List.range (j + 1)).map (Mine.putT t)).map (Mine.kT c) = (Mine.grownT ((Mine.lastT i).take i8) ++ (List.range j).map (Mine.putT t)).map (Mine.kT c) ++ [Mine.kT c (Mine.putT t j)] := by simp [List.range_succ]
     rw [e]
     exact Mine.strs_snoc hPj) hJ
   case donew =>
    ((repeat ((with_reducible rename Fr g' L' _ _ => Fx9); clear Fx9)); (repeat ((with_reducible rename News g' L' _ _ => Nx9); clear Nx9)))
    clear hR2
    intro us h tk oC mC hPn hNC hJ F5 N5
    (try k_unmd); walk_at "f"
    exact Mine.cp_end' us F5 N5 hNC (by (walk_at "n")) (by simp) (by simp) (fun p hp => by rw [List.mem_singleton.mp hp]; rfl) (by rw [Mine.grown_step ht]; exact hPn)
  case donea =>
   ((repeat ((with_reducible rename Fr g' L' _ _ => Fx9); clear Fx9)); (repeat ((with_reducible rename News g' L' _ _ => Nx9); clear Nx9)))
   intro D us h tk hP8 F5 N5
   (try k_unmd); walk_at "f"
   dsimp only [List.nil_append] at hP8 N5
   have hvl : vs.length = (Mine.lastT i).length := by
    have := (hev _ (List.mem_cons_self ..)).1.len_eq
    rw [List.length_map] at this; exact this
   replace hP8 : StrsAre us ((Mine.grownT (Mine.lastT i)).map (Mine.kT c)) := by rw [List.size_toArray, hvl, List.take_length] at hP8; exact hP8
   have hul : us.length = (Mine.grownT (Mine.lastT i)).length := by rw [hP8.len_eq, List.length_map]
   have hD0 : us ≠ [] := by
    intro e; rw [e] at hul
    exact hlg0 (List.length_eq_zero_iff.mp hul.symm)
   have yD : D ≠ AN := Mine.ne_obj N5 (oa := W.listOf us.toArray us.length) (List.mem_cons_self ..) (by k_mem) (fun e => by
    injection e with e1 e2 e3 e4
    injection e3 with e5 e6
    exact hD0 (by simpa using congrArg Array.toList e5))
   have zD : KD ≠ D := Mine.ne_obj N5 (oa := oK) (by k_mem) (by k_mem) (Mine.td_list hTD)
   have zI : I ≠ KD := Mine.iter_ne2 N5 (by k_mem) (by k_mem) hoI (Mine.td_isIter2 hTD)
   have z2 : KD ≠ L' + 1 + 1 := Nat.ne_of_gt hKD
   have z1 : KD ≠ L' + 1 := Nat.ne_of_gt (Nat.lt_of_succ_lt hKD)
   have zA : KD ≠ A := Mine.ne_obj N5 (oa := oK) (by k_mem) (by k_mem) (Mine.td_list hTD)
   have zR : ∀ p ∈ R, p.1 ≠ KD := Mine.lev_offK hR N5 (by k_mem) (fun p hp => by walk_at "m") hTD l1 (Nat.lt_of_succ_lt (Nat.lt_of_succ_lt hKD))
   have yR : ∀ p ∈ R, p.1 ≠ AN := fun p hp => Nat.ne_of_lt (qR2 p hp)
   (try k_unmd); (try k_unfold); (try dsimp only); walk_at "f"
   walk_at "~"
   unfold Mine.Stop
   (try k_unmd); (try dsimp only)
   refine Mine.for_list1 (σ := Obj × List (Mine.Tree × Int) × List Value × List Mine.Tree) (l := D) (vs := us) (nn := us.length) (tail := (LV, W.listOf (xs ++ [Value.ref A, Value.ref AN]).toArray (nl + 1)) :: (I, oI) :: (L' + 1 + 1, oL) :: (L' + 1, oN) :: (A, W.listOf vs.toArray n) :: R) (fun d => [(KD, d.1), (AN, W.listOf d.2.2.1.toArray d.2.2.1.length)]) (fun d => []) []
    (fun j d => Mine.TD PySem.Challenge.rw_ku0016_01.row.prog w d.1 (Mine.upD (Mine.kT c) d.2.1) ∧ (d.2.1, d.2.2.2) = ((Mine.grownT (Mine.lastT i)).take j).foldl Mine.tallyStep ((Mine.tallyS i).1, []) ∧ StrsAre d.2.2.1 (d.2.2.2.map (Mine.kT c))) (oK, kn, [], []) F5 ?hNb rfl ?hkb ?hpb ?turnb ?doneb
   case hNb => exact Mine.news_re N5 (by walk_at "n")
   case hkb => intro p hp; cases hp
   case hpb => exact ⟨hTD, by rw [hkn]; rfl, .nil⟩
   case turnb =>
    ((repeat ((with_reducible rename Fr g' L' _ _ => Fx9); clear Fx9)); (repeat ((with_reducible rename News g' L' _ _ => Nx9); clear Nx9)))
    clear hTD
    refine Mine.tq4 ?_
    intro oK kn2 vs2 ts2 j v8 u3 I2 h tk oI2 hv hoI2 hP F5 N5
    (try k_unmd); walk_at "f"
    ((first | refine Mine.exE hP ?_ | refine Mine.anE hP ?_); intro hTD zo410; clear hP; (first | refine Mine.exE zo410 ?_ | refine Mine.anE zo410 ?_); intro hst hvs2; clear zo410)
    (try dsimp only at hTD hst hvs2 N5)
    dsimp only [kstB] at F5
    (refine Mine.foldG ?_; intro gk414; (first | refine Mine.exE (Mine.strs_get hP8 hv) ?_ | refine Mine.anE (Mine.strs_get hP8 hv) ?_); intro y8 zo411; (first | refine Mine.exE zo411 ?_ | refine Mine.anE zo411 ?_); intro t8 zo412; clear zo411; (first | refine Mine.exE zo412 ?_ | refine Mine.anE zo412 ?_); intro hy8 zo413; clear zo412; unfold gk414; clear gk414; subst zo413)
    obtain ⟨g, hg, rfl⟩ : ∃ g, (Mine.grownT (Mine.lastT i))[j]? = some g ∧ y8 = Mine.kT c g := by
     rw [List.getElem?_map] at hy8
     cases hq : (Mine.grownT (Mine.lastT i))[j]? with
     | none => rw [hq] at hy8; cases hy8
     | some g => rw [hq] at hy8; exact ⟨g, rfl, (Option.some.inj hy8).symm⟩
    ((first | refine Mine.exE (Mine.grown_node hls (List.mem_of_getElem? hg)) ?_ | refine Mine.anE (Mine.grown_node hls (List.mem_of_getElem? hg)) ?_); intro hgl hgs)
    have hgs5 : Mine.size g ≤ 5 := by rw [hgs]; exact Nat.le_trans (Nat.succ_le_of_lt hi) (by decide)
    have hhas := Mine.up_has (Mine.kT c) (Mine.kT_inj hc) kn2 g
    have hlook := Mine.up_look (Mine.kT c) (Mine.kT_inj hc) (Mine.roundT g) 8 kn2
    have hput := Mine.up_put (Mine.kT c) (Mine.kT_inj hc) kn2 g
    have hstep : ∀ q, (kn2, ts2) = q → Mine.tallyStep q g = ((Mine.grownT (Mine.lastT i)).take (j + 1)).foldl Mine.tallyStep ((Mine.tallyS i).1, []) := by
     intro q hq
     rw [List.take_add_one, hg, List.foldl_append, ← hst, ← hq]; rfl
    clear hy8 hv
    have F6 : Fr g' L' h _ := F5
    have N6 : News g' L' h ((KD, oK) :: (AN, W.listOf vs2.toArray vs2.length) :: (I2, oI2) :: (D, W.listOf us.toArray us.length) :: (LV, W.listOf (xs ++ [Value.ref A, Value.ref AN]).toArray (nl + 1)) :: (I, oI) :: (L' + 1 + 1, oL) :: (L' + 1, oN) :: (A, W.listOf vs.toArray n) :: R) := N5
    clear F5 N5
    have wAN : AN ≠ KD := Nat.ne_of_gt qK
    have wD : D ≠ KD := Ne.symm zD
    have wLV : LV ≠ KD := Ne.symm xK
    have w2 : L' + 1 + 1 ≠ KD := Ne.symm z2
    have w1 : L' + 1 ≠ KD := Ne.symm z1
    have wA : A ≠ KD := Ne.symm zA
    have wI2 : I2 ≠ KD := Mine.iter_ne2 N6 (by k_mem) (by k_mem) hoI2 (Mine.td_isIter2 hTD)
    have yI2 : I2 ≠ AN := Mine.iter_ne2 N6 (by k_mem) (by k_mem) hoI2 (Mine.isIter_cls rfl (by decide))
    have hTD9 := hTD
    ((first | refine Mine.exE hTD ?_ | refine Mine.anE hTD ?_); intro kvs zo415; clear hTD; (first | refine Mine.exE zo415 ?_ | refine Mine.anE zo415 ?_); intro hkd hkf; clear zo415)
    ((first | refine Mine.exE (Mine.fold_small hi hlg hst) ?_ | refine Mine.anE (Mine.fold_small hi hlg hst) ?_); intro hk35 ht15)
    have hku : (Mine.upD (Mine.kT c) kn2).length ≤ 1000 := by rw [Mine.up_len]; omega
    have hgoA := trivial
    by_cases hh : Mine.dHas kn2 g = true
    ·rw [hh] at hhas
     (try k_unmd); walk_at "f"
     walk_at "~"
     have hq : Mine.tallyStep (kn2, ts2) g = (kn2, ts2) := if_pos hh
     ((try dsimp only); (try k_unmd); (try k_unfold); (try unfold Mine.LpPost); (try dsimp only); (first | (with_reducible rename Fr g' L' _ _ => hF9) | rename Fr g' L' _ _ => hF9); (first | (with_reducible rename News g' L' _ _ => hN9) | rename News g' L' _ _ => hN9); refine Mine.lp_end (oK, kn2, vs2, ts2) hF9 hN9 ?z145n ?z145i ?z145o ?z145k ?z145r ?z145p; (case z145k => walk_at "h"); (case z145n => (try dsimp only); (walk_at "n")); (case z145i => k_mem); (case z145o => exact List.forall_mem_cons.mpr ⟨Mine.td_isIter2 hTD9, List.forall_mem_cons.mpr ⟨Mine.isIter_cls rfl (by decide), List.forall_mem_nil _⟩⟩); (case z145r => walk_at "o"); (case z145p => exact ⟨hTD9, by rw [← hstep _ rfl, hq], hvs2⟩))
    ·rw [Bool.not_eq_true] at hh
     rw [hh] at hhas
     (try k_unmd); walk_at "f"
     walk_at "~"
     unfold Mine.Stop
     (try k_unmd); (try dsimp only)
     with_reducible rename News g' L' _ _ => hNa
     with_reducible rename Fr g' L' _ _ => hFa
     with_reducible rename PyProof.V.FlatPairs _ _ _ => hfa
     with_reducible rename Obj.IsDictOf _ _ _ => hda
     rw [hlook, hput] at hfa
     have hTDa : Mine.TD PySem.Challenge.rw_ku0016_01.row.prog w _ _ := ⟨_, hda, hfa⟩
     clear hda hfa
     ((first | refine Mine.exE (Mine.td_name hTDa) ?_ | refine Mine.anE (Mine.td_name hTDa) ?_); intro o9 e)
     subst e
     refine append_K hFa hNa (Upd.tail (Nat.ne_of_lt qK) (Upd.head (List.forall_mem_cons.mpr ⟨yI2, List.forall_mem_cons.mpr ⟨yD, List.forall_mem_cons.mpr ⟨Nat.ne_of_lt qL, List.forall_mem_cons.mpr ⟨Nat.ne_of_lt qI, List.forall_mem_cons.mpr ⟨Nat.ne_of_lt q2, List.forall_mem_cons.mpr ⟨Nat.ne_of_lt q1, List.forall_mem_cons.mpr ⟨Nat.ne_of_lt qA, yR⟩⟩⟩⟩⟩⟩⟩))) ?_ (by simp only [List.size_toArray]; rw [hvs2.len_eq, List.length_map, sizeLine_eq]; omega)
     clear hFa hNa hgoA
     intro h9 F9 N9
     rw [Mine.app_obj3] at N9
     (try k_unmd); (try k_unfold); (try dsimp only); walk_at "f"
     walk_at "~"
     have hq : Mine.tallyStep (kn2, ts2) g = (Mine.dPut kn2 g (Mine.dLook kn2 (Mine.roundT g) 8 + 1), ts2 ++ [g]) := if_neg (by show ¬ Mine.dHas kn2 g = true; rw [hh]; exact Bool.false_ne_true)
     ((try dsimp only); (try k_unmd); (try k_unfold); (try unfold Mine.LpPost); (try dsimp only); (first | (with_reducible rename Fr g' L' _ _ => hF9) | rename Fr g' L' _ _ => hF9); (first | (with_reducible rename News g' L' _ _ => hN9) | rename News g' L' _ _ => hN9); refine Mine.lp_end (o9, Mine.dPut kn2 g (Mine.dLook kn2 (Mine.roundT g) 8 + 1), vs2 ++ [Value.str (Mine.kT c g) t8], ts2 ++ [g]) hF9 hN9 ?z146n ?z146i ?z146o ?z146k ?z146r ?z146p; (case z146k => walk_at "h"); (case z146n => (try dsimp only); (walk_at "n")); (case z146i => k_mem); (case z146o => exact List.forall_mem_cons.mpr ⟨Mine.td_isIter2 hTDa, List.forall_mem_cons.mpr ⟨Mine.isIter_cls rfl (by decide), List.forall_mem_nil _⟩⟩); (case z146r => walk_at "o"); (case z146p => exact ⟨hTDa, by rw [← hstep _ rfl, hq], by rw [List.map_append]; exact Mine.strs_snoc hvs2⟩))
   case doneb =>
    ((repeat ((with_reducible rename Fr g' L' _ _ => Fx9); clear Fx9)); (repeat ((with_reducible rename News g' L' _ _ => Nx9); clear Nx9)))
    clear hTD
    refine Mine.tq4 ?_
    intro oK kn2 vs2 ts2 u3 h tk hP F5 N5
    (try k_unmd); walk_at "f"
    ((first | refine Mine.exE hP ?_ | refine Mine.anE hP ?_); intro hTD zo416; clear hP; (first | refine Mine.exE zo416 ?_ | refine Mine.anE zo416 ?_); intro hst hvs2; clear zo416)
    (try dsimp only at hTD hst hvs2 N5)
    dsimp only [kstB] at F5
    rw [hul, List.take_length] at hst
    have F6 : Fr g' L' h _ := F5
    have N6 : News g' L' h (Mine.tyOwn LV KD (oK, nl + 1, kn2, (AN, vs2.length, vs2, ts2) :: (A, n, vs, Mine.lastT i) :: rest) ++ ((I, oI) :: (L' + 1 + 1, oL) :: (L' + 1, oN) :: news)) := Mine.ty_close N5 hxs hR
    clear F5 N5
    (try k_unmd); (try k_unfold); (try dsimp only); walk_at "f"
    walk_at "~"
    (try dsimp only); (try k_unmd); (try k_unfold); (try unfold Mine.LpPost); (try dsimp only)
    with_reducible rename Fr g' L' _ _ => hF9
    refine Mine.lp_end (oK, nl + 1, kn2, (AN, vs2.length, vs2, ts2) :: (A, n, vs, Mine.lastT i) :: rest) hF9 N6 ?lzn ?lzi ?lzo ?lzk ?lzr ?lzp
    case lzn => walk_at "n"
    case lzi => simp
    case lzo => exact List.forall_mem_cons.mpr ⟨Mine.td_isIter2 hTD, List.forall_mem_cons.mpr ⟨Mine.isIter_cls rfl (by decide), Mine.lev_iter _⟩⟩
    case lzk => intro p hp; exact nomatch hp
    case lzr => kst_same
    case lzp =>
     refine ⟨hTD, ?_, ?_, ?_⟩
     ·exact congrArg Prod.fst hst
     ·exact Mine.tally_next hlv (congrArg Prod.snd hst)
     ·exact List.forall_mem_cons.mpr ⟨⟨hvs2, Nat.ne_of_gt qL⟩, hev⟩
 case done =>
  clear hTD hN2 hF2 hR hA0
  refine Mine.tq4 ?_
  intro oK nl kn lv u2 h tk hP F5 N5
  (try k_unmd); walk_at "f"
  (refine Mine.foldG ?_; intro gk419; (first | refine Mine.exE hP ?_ | refine Mine.anE hP ?_); intro hTD zo417; clear hP; (first | refine Mine.exE zo417 ?_ | refine Mine.anE zo417 ?_); intro hkn zo418; clear zo417; (first | refine Mine.exE zo418 ?_ | refine Mine.anE zo418 ?_); intro hlv hev; clear zo418; unfold gk419; clear gk419)
  (try dsimp only at hTD hkn hlv hev)
  dsimp only [kstB] at F5
  (refine Mine.nameE (a := lv.reverse.map Mine.levR) ?_; intro us hus)
  (refine Mine.nameE (a := lv.map Mine.levO ++ news) ?_; intro R hR)
  have N6 : News g' L' h ((LV, W.listOf us.toArray nl) :: (KD, oK) :: (L' + 1 + 1, oL) :: (L' + 1, oN) :: R) := Mine.ty_last N5 hus hR
  have F6 : Fr g' L' h _ := F5
  clear F5 N5
  (try k_unmd); (try k_unfold); (try dsimp only); walk_at "f"
  walk_at "~"
  unfold Mine.Stop
  refine' Mine.gen_eval ?_ ?gb1 ?gb2 ?gb3
  case gb1 => rfl
  case gb2 => rfl
  case gb3 => decide
  (try k_unmd); walk_at "f"
  walk_at "~"
  unfold Mine.Stop
  (try k_unmd); (try dsimp only)
  with_reducible rename IsRange _ _ _ _ _ _ _ _ => hR4
  with_reducible rename Fr g' L' _ _ => hF7
  with_reducible rename News g' L' _ _ => hN7
  revert hF7 hN7
  ((repeat ((with_reducible rename Fr g' L' _ _ => Fx9); clear Fx9)); (repeat ((with_reducible rename News g' L' _ _ => Nx9); clear Nx9)))
  intro hF7 hN7
  refine Mine.gen_cellrange (σ := List Value × List (Addr × Obj)) (rest := ?restb) (p := ?pb) (fun c => c.1) (fun c => c.1.length) (fun c => c.2) _ (fun r c => Mine.NestI (Mine.tallyV.take r) c.1 c.2) ([], []) ?hTb hF7 hN7 hR4 (by decide) rfl rfl rfl ?hPb ?hcellsb ?hpushb rfl ?hxb ?hownb ?turnq ?doneq
  case hTb =>
   intro it acc cenv
   exact Mine.hT1 _ _ _ _ _ _ _ _
  case hPb => exact ⟨rfl, fun _ h => (nomatch h), fun i row h => by simp at h⟩
  case hcellsb => intro k; rfl
  case hpushb => intro h; rfl
  case hxb => intro B C; rfl
  case hownb => exact fun i c h => Mine.NestI.own h
  case turnq =>
   ((repeat ((with_reducible rename Fr g' L' _ _ => Fx9); clear Fx9)); (repeat ((with_reducible rename News g' L' _ _ => Nx9); clear Nx9)))
   intro D C B I
   refine Mine.tq2 ?_
   intro rs os r ti h tk oI oB hDC hCB hDl hr hoI hP hoB F5 N5
   (try k_unmd); walk_at "f"
   (try dsimp only at hP N5)
   refine Mine.rest_E ?_
   have hr4 : r < 4 := hr
   have N6 := Mine.ty_row N5
   clear N5
   (try k_unmd)
   refine' Mine.gen_eval ?_ ?gc1 ?gc2 ?gc3
   case gc1 => rfl
   case gc2 => rfl
   case gc3 => decide
   (try k_unmd); walk_at "f"
   walk_at "~"
   unfold Mine.Stop
   (try k_unmd); (try dsimp only)
   refine Mine.gen_list1 (σ := List Value) (rest := ?restc) (p := ?pc) (fun c => c) (fun c => c.length) (fun _ => []) (fun j c => IntsAre c ((((Mine.tallyS 3).2.take j).map (Mine.cntR r)).map fun (d : Nat) => ((d : Nat) : Int))) [] ?hTc F5 N6 rfl rfl rfl ?hPc ?hcc rfl rfl ?turnc ?donec
   case hTc =>
    intro it acc cenv
    exact Mine.hT1 _ _ _ _ _ _ _ _
   case hPc => exact .nil
   case hcc => decide
   case turnc =>
    ((repeat ((with_reducible rename Fr g' L' _ _ => Fx9); clear Fx9)); (repeat ((with_reducible rename News g' L' _ _ => Nx9); clear Nx9)))
    intro D2 C2 I2 c2 j v2 h tk oI2 oC2 mC2 hDC2 hDl2 hj hoI2 hP2 hNC2 F5 N5
    (try k_unmd); walk_at "f"
    dsimp only [List.nil_append] at hP2 N5
    (refine Mine.foldG ?_; intro gk423; (first | refine Mine.exE (Mine.lev_get hus hj) ?_ | refine Mine.anE (Mine.lev_get hus hj) ?_); intro e zo420; (first | refine Mine.exE zo420 ?_ | refine Mine.anE zo420 ?_); intro he zo421; clear zo420; (first | refine Mine.exE zo421 ?_ | refine Mine.anE zo421 ?_); intro zo422 hem; clear zo421; unfold gk423; clear gk423; subst zo422)
    refine Mine.rest_E ?_
    have hgoA := trivial
    (try k_unmd); walk_at "f"
    walk_at "~"
    unfold Mine.Stop
    rcases e with ⟨A, n, vs, ts⟩
    ((first | refine Mine.exE (hev _ hem) ?_ | refine Mine.anE (hev _ hem) ?_); intro hok zo424)
    unfold Mine.levOk at hok
    (try dsimp only at hok)
    have hts : (Mine.tallyS 3).2[j]? = some ts := by rw [← hlv, List.getElem?_map, he]; rfl
    have htm := List.mem_of_getElem? hts
    have hsm := Mine.all_small _ htm
    refine' Mine.gen_eval ?_ ?gd1 ?gd2 ?gd3
    case gd1 => rfl
    case gd2 => rfl
    case gd3 => decide
    (try k_unmd); walk_at "f"
    walk_at "~"
    unfold Mine.Stop
    (try k_unmd); (try dsimp only)
    with_reducible rename Fr g' L' _ _ => hF8
    with_reducible rename News g' L' _ _ => hN8
    have hAR : (A, W.listOf vs.toArray n) ∈ R := by rw [hR]; exact List.mem_append.mpr (.inl (List.mem_map_of_mem (f := Mine.levO) hem))
    refine Mine.gen_list1 (σ := List Value) (rest := ?restd) (p := ?pd) (fun c => c) (fun c => c.length) (fun _ => []) (fun q c => c.length = ((ts.take q).filter fun t => decide (Mine.dLook (Mine.tallyS 3).1 t 0 ≤ (r : Int))).length) [] ?hTd hF8 (Mine.news_dup hN8 (a := A) (o := W.listOf vs.toArray n) (by walk_at "m")) rfl rfl rfl ?hPd ?hcd rfl rfl ?turnd ?doned
    case hTd =>
     intro it acc cenv
     exact Mine.hT1f _ _ _ _ _ _ _ _ _
    case hPd => rfl
    case hcd => decide
    case turnd =>
     ((repeat ((with_reducible rename Fr g' L' _ _ => Fx9); clear Fx9)); (repeat ((with_reducible rename News g' L' _ _ => Nx9); clear Nx9)))
     intro D3 C3 I3 c3 q v3 h tk oI3 oC3 mC3 hDC3 hDl3 hq hoI3 hP3 hNC3 F5 N5
     (try k_unmd); walk_at "f"
     dsimp only [List.nil_append] at hP3 N5
     refine Mine.rest_T ?_
     (refine Mine.foldG ?_; intro gk428; (first | refine Mine.exE (Mine.strs_get hok (by simpa using hq)) ?_ | refine Mine.anE (Mine.strs_get hok (by simpa using hq)) ?_); intro y8 zo425; (first | refine Mine.exE zo425 ?_ | refine Mine.anE zo425 ?_); intro t8 zo426; clear zo425; (first | refine Mine.exE zo426 ?_ | refine Mine.anE zo426 ?_); intro hy8 zo427; clear zo426; unfold gk428; clear gk428; subst zo427)
     obtain ⟨t, ht, rfl⟩ : ∃ t, ts[q]? = some t ∧ y8 = Mine.kT c t := by
      rw [List.getElem?_map] at hy8
      cases hx : ts[q]? with
      | none => rw [hx] at hy8; cases hy8
      | some t => rw [hx] at hy8; exact ⟨t, rfl, (Option.some.inj hy8).symm⟩
     have hhas := Mine.up_has (Mine.kT c) (Mine.kT_inj hc) kn t
     have hlook := Mine.up_look (Mine.kT c) (Mine.kT_inj hc) t 0 kn
     rw [hkn] at hhas hlook
     rw [Mine.all_known _ htm t (List.mem_of_getElem? ht)] at hhas
     ((first | refine Mine.exE hTD ?_ | refine Mine.anE hTD ?_); intro kvs zo429; clear hTD; (first | refine Mine.exE zo429 ?_ | refine Mine.anE zo429 ?_); intro hkd hkf; clear zo429)
     rw [hkn] at hkf
     clear hy8
     (try k_unmd); walk_at "f"
     walk_at "~"
     ·with_reducible rename kdpLook _ _ _ ≤ _ => hle
      rw [hlook] at hle
      refine Mine.rest_E ?_
      walk1
      have hc12 : c3.length ≤ 12 := by
       rw [hP3]; exact Nat.le_trans (List.length_filter_le _ _) (by rw [List.length_take]; exact Nat.le_trans (Nat.min_le_right _ _) hsm)
      refine append_K F5 N5 (Upd.head (List.forall_mem_cons.mpr ⟨Nat.ne_of_gt hDC3, fun p hp => Nat.ne_of_lt (hDl3 p hp)⟩)) ?_ (Nat.le_trans (Nat.le_trans (Nat.le_of_eq List.size_toArray) hc12) (by rw [sizeLine_eq]; decide))
      clear F5 N5
      intro h9 F9 N9
      (try k_unmd); (try k_unfold); (try dsimp only)
      exact Mine.cp_app1 F9 N9 hNC3 (by rw [Mine.filter_step ht, decide_eq_true hle, if_pos rfl, List.length_append, List.length_append, hP3]; rfl)
     ·with_reducible rename ¬ _ ≤ _ => hle
      rw [hlook] at hle
      exact Mine.cp_keep0 F5 N5 hNC3 (by rw [Mine.filter_step ht, decide_eq_false hle, if_neg Bool.false_ne_true, List.append_nil]; exact hP3)
    case doned =>
     ((repeat ((with_reducible rename Fr g' L' _ _ => Fx9); clear Fx9)); (repeat ((with_reducible rename News g' L' _ _ => Nx9); clear Nx9)))
     intro D3 c3 h tk hP3 F5 N5
     (try k_unmd); walk_at "f"
     dsimp only [List.nil_append] at hP3 N5
     have hvl : vs.length = ts.length := by
      have := hok.len_eq
      rw [List.length_map] at this; exact this
     replace hP3 : c3.length = Mine.cntR r ts := by rw [List.size_toArray, hvl, List.take_length] at hP3; exact hP3
     have hc12 : Mine.cntR r ts ≤ 1000 := Nat.le_trans (List.length_filter_le _ _) (Nat.le_trans hsm (by decide))
     have hgoL := trivial
     (try k_unmd); (try k_unfold); (try dsimp only); walk_at "f"
     walk_at "~"
     unfold Mine.Stop
     refine Mine.len_us (News.isList N5 (List.mem_cons_self ..)) hP3 hc12 ?_
     (try k_unmd); (try k_unfold); (try dsimp only); walk_at "f"
     walk_at "~"
     unfold Mine.Stop
     (try k_unmd); (try dsimp only)
     have hc2 : c2.length ≤ 4 := by
      rw [hP2.length, List.length_map, List.length_map, List.length_take, Mine.rows_four]; exact Nat.min_le_right _ _
     refine append_K F5 (Mine.rd_dropT (Mine.rd_dropT N5)) (Upd.head (List.forall_mem_cons.mpr ⟨Nat.ne_of_gt hDC2, fun p hp => Nat.ne_of_lt (hDl2 p hp)⟩)) ?_ (Nat.le_trans (Nat.le_trans (Nat.le_of_eq List.size_toArray) hc2) (by rw [sizeLine_eq]; decide))
     clear F5 N5
     intro h9 F9 N9
     (try k_unmd); (try k_unfold); (try dsimp only)
     exact Mine.cp_app1 F9 N9 hNC2 (by rw [Mine.rows_step hts]; exact Mine.ints_app hP2 _ _)
   case donec =>
    ((repeat ((with_reducible rename Fr g' L' _ _ => Fx9); clear Fx9)); (repeat ((with_reducible rename News g' L' _ _ => Nx9); clear Nx9)))
    intro D2 c2 h tk hP2 F5 N5
    (try k_unmd); walk_at "f"
    dsimp only [List.nil_append] at hP2 N5
    have hul : us.length = 4 := by rw [hus, List.length_map, List.length_reverse, ← Mine.rows_four, ← hlv, List.length_map, List.length_reverse]
    replace hP2 : IntsAre c2 (((Mine.tallyS 3).2.map (Mine.cntR r)).map fun (d : Nat) => ((d : Nat) : Int)) := by rw [List.size_toArray, hul, ← Mine.rows_four, List.take_length] at hP2; exact hP2
    have hgoA := trivial
    (try k_unmd); (try k_unfold); (try dsimp only); walk_at "f"
    walk1
    unfold Mine.Stop
    (try k_unmd); (try dsimp only)
    obtain ⟨a2, u9, r2, hc2⟩ : ∃ a u r, c2 = Value.int a u :: r := Mine.ints_head hP2 Mine.rows_ne
    have xD : D2 ≠ D := Mine.ne_obj N5 (oa := W.listOf c2.toArray c2.length) (List.mem_cons_self ..) (by k_mem) (by rw [hc2]; exact Mine.nest_ne hP)
    have hrs : rs.length ≤ 4 := by rw [hP.1, List.length_take, Mine.tallyV_len]; exact Nat.min_le_right _ _
    have xos : ∀ p ∈ os, p.1 ≠ D := by
     intro p hp
     (refine Mine.foldG ?_; intro gk435; (first | refine Mine.exE (hP.2.1 p hp) ?_ | refine Mine.anE (hP.2.1 p hp) ?_); intro vs9 zo430; (first | refine Mine.exE zo430 ?_ | refine Mine.anE zo430 ?_); intro n9 zo431; clear zo430; (first | refine Mine.exE zo431 ?_ | refine Mine.anE zo431 ?_); intro a9 zo432; clear zo431; (first | refine Mine.exE zo432 ?_ | refine Mine.anE zo432 ?_); intro u99 zo433; clear zo432; (first | refine Mine.exE zo433 ?_ | refine Mine.anE zo433 ?_); intro r9 zo434; clear zo433; (first | refine Mine.exE zo434 ?_ | refine Mine.anE zo434 ?_); intro e1 e2; clear zo434; unfold gk435; clear gk435)
     refine Mine.ne_obj N5 (oa := p.2) (ob := W.listOf rs.toArray rs.length) (by walk_at "m") (by k_mem) ?_
     rw [e1, e2]; exact Mine.nest_ne hP
    refine append_K F5 N5 (Upd.tail xD (Upd.tail (Nat.ne_of_lt (hDl _ (List.mem_cons_of_mem _ (List.mem_cons_self ..)))) (Upd.head (List.forall_mem_cons.mpr ⟨Nat.ne_of_gt (Nat.lt_trans hDC hCB), List.forall_mem_cons.mpr ⟨Nat.ne_of_lt (hDl _ (List.mem_cons_self ..)), List.forall_mem_cons.mpr ⟨Nat.ne_of_gt hDC, List.forall_mem_cons.mpr ⟨Nat.ne_of_lt (hDl (KD, oK) (by k_mem)), List.forall_mem_cons.mpr ⟨Nat.ne_of_lt (hDl (L' + 1 + 1, oL) (by k_mem)), List.forall_mem_cons.mpr ⟨Nat.ne_of_lt (hDl (L' + 1, oN) (by k_mem)), List.forall_mem_append.mpr ⟨xos, fun p hp => Nat.ne_of_lt (hDl p (by walk_at "m"))⟩⟩⟩⟩⟩⟩⟩)))) ?_ (Nat.le_trans (Nat.le_trans (Nat.le_of_eq List.size_toArray) hrs) (by rw [sizeLine_eq]; decide))
    clear F5 N5
    intro h9 F9 N9
    (try k_unmd); (try k_unfold); (try dsimp only)
    refine Mine.cp_appB1 (os := os) (rs := rs) (c2 := c2) (n2 := c2.length) F9 N9 (by k_mem) (by k_mem) hoB (by k_mem) (by k_mem) (by k_mem) (fun p hp => by walk_at "m") (by walk_at "n") (fun p hp => ?_) ?_
    ·(refine Mine.foldG ?_; intro gk445; (first | refine Mine.exE (hP.2.1 p hp) ?_ | refine Mine.anE (hP.2.1 p hp) ?_); intro vs9 zo436; (first | refine Mine.exE zo436 ?_ | refine Mine.anE zo436 ?_); intro n9 zo437; clear zo436; (first | refine Mine.exE zo437 ?_ | refine Mine.anE zo437 ?_); intro zo438 zo439; clear zo437; (first | refine Mine.exE zo439 ?_ | refine Mine.anE zo439 ?_); intro zo440 zo441; clear zo439; (first | refine Mine.exE zo441 ?_ | refine Mine.anE zo441 ?_); intro zo442 zo443; clear zo441; (first | refine Mine.exE zo443 ?_ | refine Mine.anE zo443 ?_); intro e1 zo444; clear zo443; unfold gk445; clear gk445)
     exact ⟨vs9, n9, e1⟩
    ·rw [Mine.nest_step (Mine.tallyV_row hr4)]
     exact hP.snoc hP2 Mine.rows_ne2
  case doneq =>
   ((repeat ((with_reducible rename Fr g' L' _ _ => Fx9); clear Fx9)); (repeat ((with_reducible rename News g' L' _ _ => Nx9); clear Nx9)))
   intro D
   refine Mine.tq2 ?_
   intro rs os h tk hP F5 N5
   (try k_unmd); walk_at "f"
   (try dsimp only at hP N5)
   have hV : Mine.tallyV.take 4 = Mine.tallyV := List.take_of_length_le (Nat.le_of_eq Mine.tallyV_len)
   rw [hV] at hP
   (try k_unmd); (try k_unfold); (try dsimp only); walk_at "f"
   walk_at "~"
   with_reducible rename News h₀ L _ _ => hN9
   with_reducible rename Fr h₀ L _ _ => hF9
   refine hret _ ((D, W.listOf rs.toArray rs.length) :: os) _ _ ⟨D, rs, os, rfl, rfl, hP⟩ hF9 (Mine.news_re hN9 (by rw [hR]; walk_at "n"))
end
end
section
theorem Mine.law_post_ok (args : List WData) : PySem.Challenge.rw_ku0016_01.row.toRowW.claim.post args (.bool true) args = true := by
 wrow_post
section
set_option maxHeartbeats 8000000 in
theorem Mine.law_holds : PySem.Challenge.rw_ku0016_01.Holds := by
 k_with_none
 k_with "storeName" => (k_here; (with_reducible show wpAny _ _ (storeName _ _ _) _ _ _); k_dflt (refine' Mine.storeF ?Fw181 ?Nw181 ?_ ?aw181 ?bw181; (case Fw181 => k_asm); (case Nw181 => k_asm); (case aw181 => exact Eq.refl ScopeKind.function); (case bw181 => exact Eq.refl (some NameKind.local)); k_whole; intro h7s m7s F7s N7s; (try k_sweep)))
 k_with "eval Name" => (k_here; (with_reducible show wpAny _ _ (eval (Expr.Name _ _) _) _ _ _); k_dflt (refine' nameX_L ?Fw182 ?vw182 ?_ ?aw182 ?bw182; (case Fw182 => k_asm); (case aw182 => exact Eq.refl ScopeKind.function); (case bw182 => exact Eq.refl (some NameKind.local)); (case vw182 => exact Eq.refl (some _)); k_whole))
 k_with "eval ListComp" => (k_here; k_dflt (refine' Mine.comp_eval ?_ ?c1w183 ?c2w183 ?c3w183; (case c1w183 => rfl); (case c2w183 => rfl); (case c3w183 => decide); k_whole))
 k_with "eval Name" => (k_here; (with_reducible show wpAny _ _ (eval (PySem.Expr.Name _ _) (compEnvC _ _ _ _)) _ _ _); k_dflt (first
 | (refine' Mine.cname_L ?k1w184 ?k2w184 ?k3w184 ?k4w184 ?_ ?k5w184 ?k6w184 ?k7w184; (case k6w184 => rfl); (case k5w184 => rfl); (case k7w184 => decide); (case k1w184 => k_asm); (case k3w184 => assumption); (case k2w184 => k_mem); (case k4w184 => exact rfl); k_whole)
 | (refine' Mine.cname_C ?k1w184 ?k2w184 ?k3w184 ?k4w184 ?_ ?k5w184 ?k6w184 ?k7w184; (case k6w184 => rfl); (case k5w184 => rfl); (case k7w184 => decide); (case k2w184 => rfl); (case k1w184 => k_asm); (case k3w184 => k_mem); (case k4w184 => k_asm); k_whole)
 | (refine' Mine.cname_G ?k1w184 ?k2w184 ?k3w184 ?k4w184 ?_ ?k5w184 ?k6w184 ?k7w184 ?k8w184; (case k7w184 => rfl); (case k6w184 => rfl); (case k5w184 => rfl); (case k8w184 => decide); (case k1w184 => k_asm); (case k2w184 => k_asm); (case k3w184 => k_asm); (case k4w184 => k_is); k_whole)
 | (refine' Mine.cname_B ?k1w184 ?k2w184 ?k3w184 ?k4w184 ?k5w184 ?k6w184 ?_ ?k7w184 ?k8w184 ?k9w184 ?k10w184 ?k11w184; (case k10w184 => rfl); (case k9w184 => rfl); (case k7w184 => rfl); (case k8w184 => rfl); (case k11w184 => decide); (case k1w184 => k_asm); (case k2w184 => k_asm); (case k3w184 => k_asm); (case k4w184 => k_is); (case k5w184 => boot_by_name); (case k6w184 => decide); k_whole)))
 k_with "call builtin:list.append" => (k_here; (with_reducible show wpAny _ _ (call (Value.builtin _) [Value.ref _, _]) _ _ _); k_dflt (refine' append_K ?k1w185 ?k2w185 ?k3w185 ?_ ?zw185; (case k1w185 => k_asm); (case k2w185 => k_asm); (case k3w185 => (first | (refine' Upd.head ?kh3w185; (case kh3w185 => (repeat' (first | (with_reducible assumption) | exact List.forall_mem_nil _ | (refine List.forall_mem_cons.mpr ⟨(by (first | (with_reducible assumption) | exact Nat.ne_of_lt (by with_reducible assumption) | exact Nat.ne_of_gt (by with_reducible assumption) | exact Ne.symm (by with_reducible assumption) | k_ne)), ?_⟩))))) | (refine' Upd.tail ?ka3w185 ?kb3w185; (case ka3w185 => (first | (with_reducible assumption) | exact Nat.ne_of_lt (by with_reducible assumption) | exact Nat.ne_of_gt (by with_reducible assumption) | exact Ne.symm (by with_reducible assumption) | k_ne)); (case kb3w185 => (first | (refine' Upd.head ?kh2w185; (case kh2w185 => (repeat' (first | (with_reducible assumption) | exact List.forall_mem_nil _ | (refine List.forall_mem_cons.mpr ⟨(by (first | (with_reducible assumption) | exact Nat.ne_of_lt (by with_reducible assumption) | exact Nat.ne_of_gt (by with_reducible assumption) | exact Ne.symm (by with_reducible assumption) | k_ne)), ?_⟩))))) | (refine' Upd.tail ?ka2w185 ?kb2w185; (case ka2w185 => (first | (with_reducible assumption) | exact Nat.ne_of_lt (by with_reducible assumption) | exact Nat.ne_of_gt (by with_reducible assumption) | exact Ne.symm (by with_reducible assumption) | k_ne)); (case kb2w185 => (first | (refine' Upd.head ?kh1w185; (case kh1w185 => (repeat' (first | (with_reducible assumption) | exact List.forall_mem_nil _ | (refine List.forall_mem_cons.mpr ⟨(by (first | (with_reducible assumption) | exact Nat.ne_of_lt (by with_reducible assumption) | exact Nat.ne_of_gt (by with_reducible assumption) | exact Ne.symm (by with_reducible assumption) | k_ne)), ?_⟩))))) | (refine' Upd.tail ?ka1w185 ?kb1w185; (case ka1w185 => (first | (with_reducible assumption) | exact Nat.ne_of_lt (by with_reducible assumption) | exact Nat.ne_of_gt (by with_reducible assumption) | exact Ne.symm (by with_reducible assumption) | k_ne)); (case kb1w185 => (fail))))))))))); (case zw185 => first | size_fits | (refine Nat.le_trans (m := 100000) (by simp only [List.size_toArray]; omega) (by decide))); k_whole); intro h' F' N')
 k_with "eval Dict" => (k_here; k_dflt (refine' kdn_eval (knd := PySem.strKind _ _) ?Fw186 ?Nw186 ?bw186 ?aw186 ?lw186 ?ew186 ?nw186 ?_; (case Fw186 => k_asm); (case Nw186 => first | k_asm | exact News.nil); (case bw186 => exact Top.nolimit (by k_asm)); (case aw186 => rfl); (case lw186 => rfl); (case ew186 => exact List.cons_ne_nil _ _); (case nw186 => exact Nat.le_of_ble_eq_true rfl)); intro d' h' o' F' N' l1 lo' hd'; (try k_lt l1))
 k_with "exec For Name Name cons nil" => (k_here; (rename Fr _ _ _ _ => lF'); (with_unfolding_all refine' For_invVF lF' ?k1w187 ?k2w187 ?_; (case k1w187 => exact rfl); (case k2w187 => exact rfl); k_whole))
 k_with "setItem ref str" => (k_here; (with_reducible show wpAny _ _ (setItem (Value.ref _) (Value.str _ _) (Value.int _ _)) _ _ _); k_dflt (refine' kdp_setItem ?Fw188 ?Nw188 (UpdF.head ?Uw188) ?dw188 ?fw188 ?zw188 ?_; (case Fw188 => k_asm); (case Nw188 => k_asm); (case Uw188 => (repeat' (first | (with_reducible assumption) | exact List.forall_mem_nil _ | (refine List.forall_mem_cons.mpr ⟨(by first | with_reducible assumption | exact Nat.ne_of_lt (by with_reducible assumption) | exact Nat.ne_of_gt (by with_reducible assumption)), ?_⟩)))); (case dw188 => k_asm); (case fw188 => k_asm); (case zw188 => first | omega | kdp_size); k_whole); intro h9 o9 kvs9 F9 N9 hd9 hf9; (try dsimp only at N9))
 k_with "subscriptTail Name Slice ref ref" => (k_here; refine Mine.stop ?_)
 k_with "subscriptTail List Slice ref ref" => (k_here; refine Mine.stop ?_)
 k_with "subscriptTail BinOp Slice ref ref" => (k_here; refine Mine.stop ?_)
 k_with "subscriptTail" => (k_here; (with_reducible show wpAny _ _ (subscriptTail _ (PySem.Expr.Slice _ _ _ _) _ _) _ _ _); refine Mine.stop ?_)
 k_with "eval ListComp" => (k_here; refine Mine.stop ?_)
 k_with "pyIter ref" => (k_here; refine Mine.stop ?_)
 k_with "exec For Name Name cons nil" => (k_here; (rename Fr _ _ _ _ => lF'); (with_unfolding_all refine' For_invVF lF' ?k1w195 ?k2w195 ?_; (case k1w195 => exact rfl); (case k2w195 => exact rfl); k_whole))
 k_with "call ref" => (k_here; refine Mine.stop ?_)
 k_with "binaryOp Mod int int" => (k_here; refine Mine.stop ?_)
 k_with "subscriptTail Name Constant ref int" => (k_here; have hgo9 := hgoI; clear hgo9; (with_reducible show wpAny _ _ (subscriptTail _ _ (Value.ref _) (Value.int 0 _)) _ _ _); (with_unfolding_all refine' item_anyK ?k1w198 ?k2w198 ?k3w198 ?k4w198 ?k5w198 ?_ ?k6w198; (case k1w198 => exact News.isList (by k_asm) (by k_mem)); (case k2w198 => exact htv); (case k3w198 => decide); (case k4w198 => (rw [Mine.taken_len]; decide)); (case k5w198 => decide); (case k6w198 => with_unfolding_all rfl); k_whole); intro _)
 k_with "call ref" => (k_here; (with_reducible show wpAny _ _ (call (Value.ref 106) _) _ _ _); (first | (with_reducible rename News g' L' _ _ => hN9) | rename News g' L' _ _ => hN9); rw [hnews] at hN9;  walk_at "f"; k_dflt ((first | (refine' Mine.CtrL.use (Mine.counts_c _ 5 (by decide) _) [_] ?kBw199 ?kFw199 ?kXw199 hN9 hTI hTD hoff ?kxw199 ?kpw199 ?kTw199 ?kKw199 ?kdw199 ?kuw199 ?_)); (case kBw199 => k_asm); (case kFw199 => k_asm); (case kXw199 => k_asm); (case kxw199 => (repeat' (first | exact List.forall_mem_nil _ | (refine List.forall_mem_cons.mpr ⟨by first | exact Or.inl (by intro h; cases h) | exact Mine.offT_iter (by with_reducible assumption) | assumption, ?_⟩)))); (case kpw199 => trivial); (case kTw199 => k_asm); (case kKw199 => first | exact rfl | assumption); (case kdw199 => first | exact Mine.oDp (by with_reducible assumption) (by exact rfl) | exact Mine.oDq (by with_reducible assumption) (by exact rfl) | omega | ktr_room); (case kuw199 => first | exact Mine.oDp (by with_reducible assumption) (by exact rfl) | exact Mine.oDq (by with_reducible assumption) (by exact rfl) | omega | ktr_units);  k_whole); clear hN9; clear hnews; intro v9 tl9 tI tD h9 tk9 hp9 hTI hTD htl9 F9 N9; (refine Mine.nameE (a := tI ++ (tD ++ news0)) ?_; intro news hnews); rw [← hnews] at N9; (try dsimp only at hp9); ((refine Mine.foldG ?_; intro gk449; (first | refine Mine.exE hp9 ?_ | refine Mine.anE hp9 ?_); intro D9 zo446; clear hp9; (first | refine Mine.exE zo446 ?_ | refine Mine.anE zo446 ?_); intro vs9 zo447; clear zo446; (first | refine Mine.exE zo447 ?_ | refine Mine.anE zo447 ?_); intro e1 zo448; clear zo447; (first | refine Mine.exE zo448 ?_ | refine Mine.anE zo448 ?_); intro e2 hv9; clear zo448; unfold gk449; clear gk449); cases e1; cases e2); (try dsimp only [List.nil_append, List.cons_append] at N9); (try dsimp only); walk_at "f")
 k_with "call ref" => (k_here; (with_reducible show wpAny _ _ (call (Value.ref 113) _) _ _ _); (first | (with_reducible rename News g' L' _ _ => hN9) | rename News g' L' _ _ => hN9); rw [hnews] at hN9;  walk_at "f"; k_dflt ((first | (refine' Mine.CtrL.use (Mine.cubed_c _ 5 5 (by decide) (by decide) _ _) [_, _] ?kBw200 ?kFw200 ?kXw200 hN9 hTI hTD hoff ?kxw200 ?kpw200 ?kTw200 ?kKw200 ?kdw200 ?kuw200 ?_)); (case kBw200 => k_asm); (case kFw200 => k_asm); (case kXw200 => k_asm); (case kxw200 => (repeat' (first | exact List.forall_mem_nil _ | (refine List.forall_mem_cons.mpr ⟨by first | exact Or.inl (by intro h; cases h) | exact Mine.offT_iter (by with_reducible assumption) | assumption, ?_⟩)))); (case kpw200 => trivial); (case kTw200 => k_asm); (case kKw200 => first | exact rfl | assumption); (case kdw200 => first | exact Mine.oDp (by with_reducible assumption) (by exact rfl) | exact Mine.oDq (by with_reducible assumption) (by exact rfl) | omega | ktr_room); (case kuw200 => first | exact Mine.oDp (by with_reducible assumption) (by exact rfl) | exact Mine.oDq (by with_reducible assumption) (by exact rfl) | omega | ktr_units);  k_whole); clear hN9; clear hnews; intro v9 tl9 tI tD h9 tk9 hp9 hTI hTD htl9 F9 N9; (refine Mine.nameE (a := tI ++ (tD ++ news0)) ?_; intro news hnews); rw [← hnews] at N9; (try dsimp only at hp9); ((refine Mine.foldG ?_; intro gk453; (first | refine Mine.exE hp9 ?_ | refine Mine.anE hp9 ?_); intro D9 zo450; clear hp9; (first | refine Mine.exE zo450 ?_ | refine Mine.anE zo450 ?_); intro vs9 zo451; clear zo450; (first | refine Mine.exE zo451 ?_ | refine Mine.anE zo451 ?_); intro e1 zo452; clear zo451; (first | refine Mine.exE zo452 ?_ | refine Mine.anE zo452 ?_); intro e2 hv9; clear zo452; unfold gk453; clear gk453); cases e1; cases e2); (try dsimp only [List.nil_append, List.cons_append] at N9); (try dsimp only); walk_at "f")
 k_with "call ref" => (k_here; (with_reducible show wpAny _ _ (call (Value.ref 113) _) _ _ _); (first | (with_reducible rename News g' L' _ _ => hN9) | rename News g' L' _ _ => hN9); rw [hnews] at hN9;  walk_at "f"; k_dflt ((first | (refine' Mine.CtrL.use (Mine.cubed_c _ _ 3 ?c1w201 (by decide) _ _) [_, _, _, _, _, _] ?kBw201 ?kFw201 ?kXw201 hN9 hTI hTD hoff ?kxw201 ?kpw201 ?kTw201 ?kKw201 ?kdw201 ?kuw201 ?_)); (case kBw201 => k_asm); (case kFw201 => k_asm); (case kXw201 => k_asm); (case kxw201 => (repeat' (first | exact List.forall_mem_nil _ | (refine List.forall_mem_cons.mpr ⟨by first | exact Or.inl (by intro h; cases h) | exact Mine.offT_iter (by with_reducible assumption) | assumption, ?_⟩)))); (case kpw201 => trivial); (case kTw201 => k_asm); (case kKw201 => first | exact rfl | assumption); (case kdw201 => first | exact Mine.oDp (by with_reducible assumption) (by exact rfl) | exact Mine.oDq (by with_reducible assumption) (by exact rfl) | omega | ktr_room); (case kuw201 => first | exact Mine.oDp (by with_reducible assumption) (by exact rfl) | exact Mine.oDq (by with_reducible assumption) (by exact rfl) | omega | ktr_units); (case c1w201 => assumption); k_whole); clear hN9; clear hnews; intro v9 tl9 tI tD h9 tk9 hp9 hTI hTD htl9 F9 N9; (refine Mine.nameE (a := tI ++ (tD ++ news0)) ?_; intro news hnews); rw [← hnews] at N9; (try dsimp only at hp9); ((refine Mine.foldG ?_; intro gk457; (first | refine Mine.exE hp9 ?_ | refine Mine.anE hp9 ?_); intro D9 zo454; clear hp9; (first | refine Mine.exE zo454 ?_ | refine Mine.anE zo454 ?_); intro vs9 zo455; clear zo454; (first | refine Mine.exE zo455 ?_ | refine Mine.anE zo455 ?_); intro e1 zo456; clear zo455; (first | refine Mine.exE zo456 ?_ | refine Mine.anE zo456 ?_); intro e2 hv9; clear zo456; unfold gk457; clear gk457); cases e1; cases e2); (try dsimp only [List.nil_append, List.cons_append] at N9); (try dsimp only); walk_at "f")
 k_with "binaryOp Add ref ref" => (k_here; have hgo9 := hgoA; clear hgo9; refine Mine.stop ?_)
 k_with "exec For Name Subscript cons nil" => (k_here; (rename Fr _ _ _ _ => lF'); (with_unfolding_all refine' For_invVF lF' ?k1w203 ?k2w203 ?_; (case k1w203 => exact rfl); (case k2w203 => exact rfl); k_whole))
 k_with "call ref" => (k_here; (with_reducible show wpAny _ _ (call (Value.ref 120) _) _ _ _); walk_at "f"; k_dflt (refine' Mine.put_t _ _ ?c1w204 _ _ ?c2w204 ?c3w204 _ _ _ _ _ _ _ _ _ _ _ _ _ _ _ _ _ _ _ _ _ _ _ _ _ ?kBw204 ?kFw204 ?kXw204 ?kNw204 ?kTw204 ?kKw204 ?kPw204 ?kdw204 ?kuw204 ?_; (case kBw204 => k_asm); (case kFw204 => k_asm); (case kXw204 => k_asm); (case kNw204 => k_asm); (case kTw204 => k_asm); (case kKw204 => first | exact rfl | assumption); (case kPw204 => trivial); (case kdw204 => first | exact Mine.oDp (by with_reducible assumption) (by exact rfl) | exact Mine.oDq (by with_reducible assumption) (by exact rfl) | omega | ktr_room); (case kuw204 => first | exact Mine.oDp (by with_reducible assumption) (by exact rfl) | exact Mine.oDq (by with_reducible assumption) (by exact rfl) | omega | ktr_units); (case c1w204 => assumption); (case c2w204 => assumption); (case c3w204 => assumption); k_whole); intro v9 tl9 h9 tk9 hp9 F9 N9; (try dsimp only at hp9); (((first | refine Mine.exE hp9 ?_ | refine Mine.anE hp9 ?_); intro e1 zo458; clear hp9; (first | refine Mine.exE zo458 ?_ | refine Mine.anE zo458 ?_); intro k9 e2; clear zo458); cases e1; cases e2); (try dsimp only [List.nil_append, List.cons_append] at N9); (try dsimp only); walk_at "f")
 k_with "subscriptTail Name Constant ref int" => (k_here; have hgo9 := hgoG; clear hgo9; (first
 | ((with_reducible show wpAny _ _ (subscriptTail _ _ (Value.ref _) (Value.int 2 _)) _ _ _); refine Mine.tup_i2 (News.isTup (by k_asm) (by k_mem)) ?_)
 | ((with_reducible show wpAny _ _ (subscriptTail _ _ (Value.ref _) (Value.int 3 _)) _ _ _); refine Mine.tup_i3 (News.isTup (by k_asm) (by k_mem)) ?_)))
 k_with "call ref" => (k_here; (with_reducible show wpAny _ _ (call (Value.ref 135) _) _ _ _); (first | (with_reducible rename News g' L' _ _ => hN9) | rename News g' L' _ _ => hN9); rw [hnews] at hN9;  walk_at "f"; k_dflt ((first | (refine' Mine.CtrL.use (Mine.spell_c _ _ _ _ ?c0w206 5 _ _ _ _ _ ?c1w206 (by decide) ?c2w206) [_, _, _] ?kBw206 ?kFw206 ?kXw206 hN9 hTI hTD hoff ?kxw206 ?kpw206 ?kTw206 ?kKw206 ?kdw206 ?kuw206 ?_)); (case kBw206 => k_asm); (case kFw206 => k_asm); (case kXw206 => k_asm); (case kxw206 => (repeat' (first | exact List.forall_mem_nil _ | (refine List.forall_mem_cons.mpr ⟨by first | exact Or.inl (by intro h; cases h) | exact Mine.offT_iter (by with_reducible assumption) | assumption, ?_⟩)))); (case kpw206 => exact List.mem_append.mpr (Or.inl (by k_mem))); (case kTw206 => k_asm); (case kKw206 => first | exact rfl | assumption); (case kdw206 => first | exact Mine.oDp (by with_reducible assumption) (by exact rfl) | exact Mine.oDq (by with_reducible assumption) (by exact rfl) | omega | ktr_room); (case kuw206 => first | exact Mine.oDp (by with_reducible assumption) (by exact rfl) | exact Mine.oDq (by with_reducible assumption) (by exact rfl) | omega | ktr_units); (case c0w206 => exact hcn); (case c1w206 => assumption); (case c2w206 => assumption); k_whole); clear hN9; clear hnews; intro v9 tl9 tI tD h9 tk9 hp9 hTI hTD htl9 F9 N9; (refine Mine.nameE (a := tI ++ (tD ++ news0)) ?_; intro news hnews); rw [← hnews] at N9; (try dsimp only at hp9); (((first | refine Mine.exE hp9 ?_ | refine Mine.anE hp9 ?_); intro e1 zo459; clear hp9; (first | refine Mine.exE zo459 ?_ | refine Mine.anE zo459 ?_); intro u8 e2; clear zo459); rw [hspell] at e2; cases e1; cases e2); (try dsimp only [List.nil_append, List.cons_append] at N9); (try dsimp only); walk_at "f")
 k_with "call ref" => (k_here; (with_reducible show wpAny _ _ (call (Value.ref 99) _) _ _ _); (first | (with_reducible rename News g' L' _ _ => hN9) | rename News g' L' _ _ => hN9); rw [hnews] at hN9;  walk_at "f"; k_dflt ((first | (refine' Mine.CtrL.use (Mine.idiv_c _ 120 _ ?c1w207 ?c2w207 ?c3w207 _ _) [_, _, _] ?kBw207 ?kFw207 ?kXw207 hN9 hTI hTD hoff ?kxw207 ?kpw207 ?kTw207 ?kKw207 ?kdw207 ?kuw207 ?_)); (case kBw207 => k_asm); (case kFw207 => k_asm); (case kXw207 => k_asm); (case kxw207 => (repeat' (first | exact List.forall_mem_nil _ | (refine List.forall_mem_cons.mpr ⟨by first | exact Or.inl (by intro h; cases h) | exact Mine.offT_iter (by with_reducible assumption) | assumption, ?_⟩)))); (case kpw207 => trivial); (case kTw207 => k_asm); (case kKw207 => first | exact rfl | assumption); (case kdw207 => first | exact Mine.oDp (by with_reducible assumption) (by exact rfl) | exact Mine.oDq (by with_reducible assumption) (by exact rfl) | omega | ktr_room); (case kuw207 => first | exact Mine.oDp (by with_reducible assumption) (by exact rfl) | exact Mine.oDq (by with_reducible assumption) (by exact rfl) | omega | ktr_units); (case c1w207 => assumption); (case c2w207 => assumption); (case c3w207 => assumption); k_whole); clear hN9; clear hnews; intro v9 tl9 tI tD h9 tk9 hp9 hTI hTD htl9 F9 N9; (refine Mine.nameE (a := tI ++ (tD ++ news0)) ?_; intro news hnews); rw [← hnews] at N9; (try dsimp only at hp9); ((refine Mine.foldG ?_; intro gk463; (first | refine Mine.exE hp9 ?_ | refine Mine.anE hp9 ?_); intro T9 zo460; clear hp9; (first | refine Mine.exE zo460 ?_ | refine Mine.anE zo460 ?_); intro u1 zo461; clear zo460; (first | refine Mine.exE zo461 ?_ | refine Mine.anE zo461 ?_); intro u2 zo462; clear zo461; (first | refine Mine.exE zo462 ?_ | refine Mine.anE zo462 ?_); intro e1 e2; clear zo462; unfold gk463; clear gk463); cases e1; cases e2); (try dsimp only [List.nil_append, List.cons_append] at N9); (try dsimp only); walk_at "f")
 k_with "compareOp NotEq str str" => (k_here; have hgo9 := hgoZ; clear hgo9; refine Mine.stop ?_)
 k_with "call ref" => (k_here; have hgo9 := hgoK; clear hgo9; refine Mine.stop ?_)
 k_with "assign Tuple" => (k_here; have hgo9 := hgoT; clear hgo9; refine Mine.stop ?_)
 k_with "compareOp NotEq ref ref" => (k_here; have hgo9 := hgoD; clear hgo9; refine Mine.stop ?_)
 w_on
 refine holds_law Mine.saidK (fun said9 => ?_)
 refine holds_open (q := Mine.viewK) (loose := Mine.looseK) (Xt := fun s => xlAt Mine.viewK Mine.litK s && recOk (RowW.records PySem.Challenge.rw_ku0016_01.row.toRowW) s) (XP := XL Mine.viewK Mine.litK) (Yf := Hook.obs Mine.hookK) (Ya := Hook.val Mine.hookK) (YP := Hook.says Mine.hookK) (N := 35906) Mine.leftK (Hook.of Mine.hookK) (Hook.keeps Mine.hookK) (fun s e => xl_of s (Bool.and_eq_true_iff.mp e).1) XL.keeps (by rfl) (by rfl) (by rfl) (fun s e => recFacts_of (Bool.and_eq_true_iff.mp e).2) (by rfl) (by assumption) (by decide +kernel) ⟨rfl, rfl, rfl, rfl, rfl, by decide +kernel⟩ ?hw ?hc
 case hw => w_witness2
 clear said9
 delta Mine.hookK Mine.litK Mine.looseK
 k_go0
 rename World => w
 rename ¬ _ => hlen63
 rename IntsAre _ _ => hints
 with_reducible rename Fr _ _ _ _ => F0
 with_reducible rename News _ _ _ _ => N0
 with_reducible rename Below _ _ _ _ => B0
 with_reducible rename Top _ _ _ _ _ (ghostOf _ _) => T0
 with_reducible rename Frag.In _ (ghostOf _ _) => X0
 with_reducible rename Heap.IsList (ghostOf _ _) _ _ => hS0
 with_reducible rename List Int => ns
 with_reducible rename List Value => vs
 (refine Mine.foldG ?_; intro gk466; (first | refine Mine.exE (Mine.name_fr F0) ?_ | refine Mine.anE (Mine.name_fr F0) ?_); intro g' zo464; (first | refine Mine.exE zo464 ?_ | refine Mine.anE zo464 ?_); intro L' zo465; clear zo464; (first | refine Mine.exE zo465 ?_ | refine Mine.anE zo465 ?_); intro hg' hL'; clear zo465; unfold gk466; clear gk466)
 rw [← hg'] at F0 N0 B0 T0 X0 hS0
 rw [← hL'] at F0 N0 ⊢
 ((first | refine Mine.exE (Mine.name_ls hS0) ?_ | refine Mine.anE (Mine.name_ls hS0) ?_); intro S e)
 subst e
 replace F0 : Fr g' L' _ (kstB (fun _ => none) [(Str.ofString "script", .ref S)]) := Mine.fr_args F0 rfl
 simp only [kstB] at F0
 (refine Mine.foldG ?_; intro gk474; (first | refine Mine.exE (Mine.law_start N0) ?_ | refine Mine.anE (Mine.law_start N0) ?_); intro tI zo467; (first | refine Mine.exE zo467 ?_ | refine Mine.anE zo467 ?_); intro tD zo468; clear zo467; (first | refine Mine.exE zo468 ?_ | refine Mine.anE zo468 ?_); intro news0 zo469; clear zo468; (first | refine Mine.exE zo469 ?_ | refine Mine.anE zo469 ?_); intro news zo470; clear zo469; (first | refine Mine.exE zo470 ?_ | refine Mine.anE zo470 ?_); intro hnews zo471; clear zo470; (first | refine Mine.exE zo471 ?_ | refine Mine.anE zo471 ?_); intro hTI zo472; clear zo471; (first | refine Mine.exE zo472 ?_ | refine Mine.anE zo472 ?_); intro hTD zo473; clear zo472; (first | refine Mine.exE zo473 ?_ | refine Mine.anE zo473 ?_); intro hoff N1; clear zo473; unfold gk474; clear gk474)
 clear N0
 walk_at "f"
 walk_at "~"
 unfold Mine.Stop
 have hvl : vs.length = ns.length := hints.length
 have hn63 : ns.length ≤ 63 := by omega
 refine kmk_slice_lit (its := vs.toArray) (zs := vs.take 6) (lo := none) (hi := some 6) F0 N1 (hS0.at fun o e => F0.keep _ o e) (by kmk_part) (by kmk_part) (Mine.pick_take vs 6) ?_ (by with_unfolding_all rfl) (by kmk_pure) (by rw [List.size_toArray, sizeLine_eq]; omega)
 clear F0 N1
 intro D1 h F0 N1 hD1
 (try k_unmd); (try k_unfold); (try dsimp only); walk_at "f"
 walk_at "~"
 unfold Mine.Stop
 with_reducible rename News g' L' _ _ => N2
 with_reducible rename Fr g' L' _ _ => F2
 ((first | refine Mine.exE (Mine.lit6 N2) ?_ | refine Mine.anE (Mine.lit6 N2) ?_); intro ls zo475; (first | refine Mine.exE zo475 ?_ | refine Mine.anE zo475 ?_); intro hls N3; clear zo475)
 clear N2
 ((first | refine Mine.exE (Mine.name_1 N3) ?_ | refine Mine.anE (Mine.name_1 N3) ?_); intro D2 e)
 subst e
 refine kba_turn (value' := PySem.Expr.Name (PySem.Str.ofString "_") ⟨0, 0, 0, 0⟩) (fun _ => rfl) ?_
 refine kmk_slice_lit (its := ls.toArray) (zs := ls.drop ns.length) (lo := some (ns.length : Int)) (hi := none) F2 N3 (News.isList N3 (List.mem_cons_self ..)) (by kmk_part) (by kmk_part) (Mine.pick_drop ls _) ?_ (by with_unfolding_all rfl) (by kmk_pure) (by rw [List.size_toArray, hls.length, sizeLine_eq]; decide)
 clear F2 N3
 intro D3 h F0 N1 hD3
 (try k_unmd); (try k_unfold); (try dsimp only); walk_at "f"
 walk_at "~"
 refine kmk_add_lit (zs := vs.take 6 ++ ls.drop ns.length) F0 N1 (News.isList N1 (items := (vs.take 6).toArray) (n := 0) (by k_mem)) (News.isList N1 (List.mem_cons_self ..)) rfl ?_ (by simp only [List.length_take, List.length_drop, hls.length, List.length_cons, List.length_nil]; rw [sizeLine_eq]; omega)
 have htv0 : IntsAre (vs.take 6 ++ ls.drop ns.length) (Mine.takenL ns) := Mine.ints_cat (Mine.ints_take 6 hints) (Mine.ints_drop _ hls)
 (refine Mine.nameE (a := vs.take 6 ++ ls.drop ns.length) ?_; intro tv htv)
 rw [← htv] at htv0 ⊢
 clear htv
 have htv := htv0
 clear htv0 F0 N1
 intro TK h F0 N1 hTK
 replace N1 := Mine.news_re (l' := (TK, W.listOf tv.toArray 0) :: news) N1 (by walk_at "n")
 clear hTK hD1 hD3 hls
 have hgoI := trivial
 (try k_unmd); (try k_unfold); (try dsimp only); walk_at "f"
 walk_at "~"
 unfold Mine.Stop
 (try k_unmd); (try dsimp only)
 refine mod_int' (by decide) ?_
 ((first | refine Mine.exE (Mine.sign_of ((Mine.takenL ns).getD (Int.toNat 0) 0)) ?_ | refine Mine.anE (Mine.sign_of ((Mine.takenL ns).getD (Int.toNat 0) 0)) ?_); intro c zo476; (first | refine Mine.exE zo476 ?_ | refine Mine.anE zo476 ?_); intro hc hcv; clear zo476)
 rw [hcv]
 clear hcv hgoI
 (try k_unmd); (try k_unfold); (try dsimp only); walk_at "f"
 walk_at "~"
 unfold Mine.Stop
 with_reducible rename News g' L' _ _ => hN4
 with_reducible rename Fr g' L' _ _ => hF4
 have hmk : ({ cps := #[((c : Nat) : Int).toNat] } : Str) = Mine.mk [c] := by rw [Int.toNat_natCast]; rfl
 (try dsimp +zetaDelta only at hF4); rw [hmk] at hF4 ⊢
 clear hmk
 replace hN4 := Mine.rd_dropT hN4
 ((first | refine Mine.exE (Mine.name_1 hN4) ?_ | refine Mine.anE (Mine.name_1 hN4) ?_); intro TB e)
 subst e
 with_reducible rename IntsAre _ (List.map _ (Mine.cnts 5)) => hcn
 ((first | refine Mine.exE (Mine.name_vs hcn) ?_ | refine Mine.anE (Mine.name_vs hcn) ?_); intro cv hcv)
 subst hcv
 revert hF4 hN4
 ((repeat ((with_reducible rename Fr g' L' _ _ => Fx9); clear Fx9)); (repeat ((with_reducible rename News g' L' _ _ => Nx9); clear Nx9)))
 intro hF4 hN4
 (try k_unmd); walk_at "f"
 walk_at "f"; k_dflt (refine' Mine.tally_c w c hc _ _ _ _ _ _ _ _ _ _ _ _ _ _ _ _ _ _ _ _ _ _ _ _ ?kB ?kF ?kX ?kN ?kT ?kK ?kP ?kd ?ku ?_; (case kB => k_asm); (case kF => k_asm); (case kX => k_asm); (case kN => k_asm); (case kT => k_asm); (case kK => first | exact rfl | assumption); (case kP => trivial); (case kd => first | exact Mine.oDp (by with_reducible assumption) (by exact rfl) | exact Mine.oDq (by with_reducible assumption) (by exact rfl) | omega | ktr_room); (case ku => first | exact Mine.oDp (by with_reducible assumption) (by exact rfl) | exact Mine.oDq (by with_reducible assumption) (by exact rfl) | omega | ktr_units);  k_whole); intro v9 tl9 h9 tk9 hp9 F9 N9; (try dsimp only at hp9); ((refine Mine.foldG ?_; intro gk481; (first | refine Mine.exE hp9 ?_ | refine Mine.anE hp9 ?_); intro DT zo477; clear hp9; (first | refine Mine.exE zo477 ?_ | refine Mine.anE zo477 ?_); intro us zo478; clear zo477; (first | refine Mine.exE zo478 ?_ | refine Mine.anE zo478 ?_); intro os zo479; clear zo478; (first | refine Mine.exE zo479 ?_ | refine Mine.anE zo479 ?_); intro e1 zo480; clear zo479; (first | refine Mine.exE zo480 ?_ | refine Mine.anE zo480 ?_); intro e2 hNest; clear zo480; unfold gk481; clear gk481); cases e1; cases e2); (try dsimp only [List.nil_append, List.cons_append] at N9); (try dsimp only); walk_at "f"
 clear hF4 hN4
 (try k_unmd); (try k_unfold); (try dsimp only); walk_at "f"
 walk_at "~"
 unfold Mine.Stop
 refine' Mine.gen_eval ?_ ?la1 ?la2 ?la3
 case la1 => rfl
 case la2 => rfl
 case la3 => decide
 (try k_unmd); walk_at "f"
 walk_at "~"
 unfold Mine.Stop
 (try k_unmd); (try dsimp only)
 with_reducible rename IsRange _ _ _ _ _ _ _ _ => hR4
 with_reducible rename Fr g' L' _ _ => hF7
 with_reducible rename News g' L' _ _ => hN7
 have hN8 := Mine.law_pre hN7 hnews
 revert hF7 hN8
 ((repeat ((with_reducible rename Fr g' L' _ _ => Fx9); clear Fx9)); (repeat ((with_reducible rename News g' L' _ _ => Nx9); clear Nx9)))
 intro hF7 hN8
 refine Mine.gen_range (σ := List Value × List (Addr × Obj) × List (Addr × Obj) × List (Addr × Obj)) (rest := ?lrest) (p := ?lp) (fun c => c.1) (fun c => c.1.length) (fun c => c.2.1 ++ (c.2.2.1 ++ c.2.2.2)) _ (fun i e => Mine.NestI (Mine.tallyV.take i) e.1 e.2.1 ∧ Mine.TabI e.2.2.1 ∧ Mine.TabD e.2.2.2) ([], [], tI, tD) ?lhT hF7 hN8 hR4 (by decide) rfl rfl rfl ?lhP ?lhc rfl rfl ?lturn ?ldone
 case lhT =>
  intro it acc cenv
  exact Mine.hT1 _ _ _ _ _ _ _ _
 case lhP => exact ⟨⟨rfl, fun _ h => (nomatch h), fun i row h => by simp at h⟩, hTI, hTD⟩
 case lhc => decide
 case lturn =>
  ((repeat ((with_reducible rename Fr g' L' _ _ => Fx9); clear Fx9)); (repeat ((with_reducible rename News g' L' _ _ => Nx9); clear Nx9)))
  clear hTI hTD
  intro D8 C8 I8
  refine Mine.tq4 ?_
  intro rs os2 tI tD i8 ti h tk oI8 oC8 mC8 hDC hDl hi8 hoI8 hP8 hNC F5 N5
  ((first | refine Mine.exE hP8 ?_ | refine Mine.anE hP8 ?_); intro hP8 zo482; (first | refine Mine.exE zo482 ?_ | refine Mine.anE zo482 ?_); intro hTI hTD; clear zo482)
  (try dsimp only at hP8 hTI hTD N5)
  refine Mine.rest_E ?_
  have hi5 : i8 ≤ 5 := Nat.le_trans (Nat.le_of_lt hi8) (by decide)
  have hoff0 := hoff
  have hold : ∀ p ∈ news0, p.1 < D8 := fun p hp => hDl p (by walk_at "m")
  have hosD : ∀ p ∈ os, p.1 < D8 := fun p hp => hDl p (by walk_at "m")
  have n0e : ∀ p ∈ news0, p.1 ≠ D8 := fun p hp => Nat.ne_of_lt (hold p hp)
  (refine Mine.nameE (a := news0) ?_; intro n00 hn00)
  rw [← hn00] at N5 n0e hoff0
  (refine Mine.nameE (a := os2 ++ (os ++ n00)) ?_; intro news0 hn1)
  (refine Mine.nameE (a := tI ++ (tD ++ news0)) ?_; intro news hnews)
  have N6 := Mine.law_turn N5 hn1 hnews
  clear N5
  have hoff : ∀ q ∈ news0, q.1 ≠ 73 ∧ q.1 ≠ 80 := by
   rw [hn1]
   have hs9 : ∀ q ∈ tI ++ (tD ++ news0), q ∈ news := by rw [hnews]; exact fun _ h => h
   refine List.forall_mem_append.mpr ⟨Mine.nest_off hP8 (n0 := news0) N6 hTI hTD ?_ ?_, List.forall_mem_append.mpr ⟨Mine.nest_off hNest (n0 := news0) N6 hTI hTD ?_ ?_, hoff0⟩⟩
   ·intro q hq; have hq := hs9 q hq; walk_at "m"
   ·intro q hq; rw [hnews, hn1]; walk_at "m"
   ·intro q hq; have hq := hs9 q hq; walk_at "m"
   ·intro q hq; rw [hnews, hn1]; walk_at "m"
  have hOC8 := Mine.offT_ns hNC
  have hgoA := trivial
  (try k_unmd); walk_at "f"
  walk_at "~"
  unfold Mine.Stop
  (try k_unmd); (try k_unfold); (try dsimp only)
  with_reducible rename News g' L' _ _ => hNa
  with_reducible rename Fr g' L' _ _ => hFa
  with_reducible rename IntsAre _ (Mine.digitsL _ _) => hv9
  ((first | refine Mine.exE (Mine.lit3 hNa) ?_ | refine Mine.anE (Mine.lit3 hNa) ?_); intro zs zo483; (first | refine Mine.exE zo483 ?_ | refine Mine.anE zo483 ?_); intro hzs hNb; clear zo483)
  ((first | refine Mine.exE (Mine.name_1 hNb) ?_ | refine Mine.anE (Mine.name_1 hNb) ?_); intro Z1 e)
  subst e
  ((first | refine Mine.exE (Mine.name_2 hNb) ?_ | refine Mine.anE (Mine.name_2 hNb) ?_); intro Z2 e)
  subst e
  ((first | refine Mine.exE (Mine.name_vs hv9) ?_ | refine Mine.anE (Mine.name_vs hv9) ?_); intro v9 e)
  subst e
  have hv9l : v9.length ≤ 1000 := Mine.digs_small hi5 hv9
  refine kmk_add_lit (its := v9.toArray) (its2 := zs.toArray) (zs := v9 ++ zs) hFa hNb (News.isList hNb (items := v9.toArray) (n := 0) (by k_mem)) (News.isList hNb (List.mem_cons_self ..)) rfl ?_ (by simp only [hzs.length, List.length_cons, List.length_nil]; rw [sizeLine_eq]; omega)
  clear hFa hNa hNb hgoA
  intro Z3 h2 hFa hNa hZ3
  (try k_unmd); (try k_unfold); (try dsimp only); walk_at "f"
  walk_at "~"
  unfold Mine.Stop
  (try k_unmd); (try dsimp only)
  refine kba_turn (value' := PySem.Expr.Name (PySem.Str.ofString "_") ⟨0, 0, 0, 0⟩) (fun _ => rfl) ?_
  refine kmk_slice_lit (s := Shared.mk h2 _ _ _ _) (its := (v9 ++ zs).toArray) (zs := (v9 ++ zs).take 4) (lo := none) (hi := some 4) hFa hNa (News.isList hNa (List.mem_cons_self ..)) (by kmk_part) (by kmk_part) (Mine.pick_take (v9 ++ zs) 4) ?_ (by with_unfolding_all rfl) (by kmk_pure) (by simp only [List.size_toArray, List.length_append, hzs.length, List.length_cons, List.length_nil]; rw [sizeLine_eq]; omega)
  clear hFa hNa hZ3
  intro D7 h3 hFa hNa hD7
  (refine Mine.foldG ?_; intro gk486; (first | refine Mine.exE (Mine.row_is i8 hi8) ?_ | refine Mine.anE (Mine.row_is i8 hi8) ?_); intro row zo484; (first | refine Mine.exE zo484 ?_ | refine Mine.anE zo484 ?_); intro hrow1 zo485; clear zo484; (first | refine Mine.exE zo485 ?_ | refine Mine.anE zo485 ?_); intro hrow2 hrow3; clear zo485; unfold gk486; clear gk486)
  have hrow : IntsAre ((v9 ++ zs).take 4) (row.map fun (d : Nat) => ((d : Nat) : Int)) := by
   rw [← hrow3]; exact Mine.ints_take 4 (Mine.ints_cat hv9 hzs)
  (refine Mine.nameE (a := (v9 ++ zs).take 4) ?_; intro rv hrv)
  rw [← hrv] at hrow hNa
  clear hrv hrow3
  have h78 : D8 < D7 := hD7 (D8, _) (List.mem_cons_of_mem _ (List.mem_cons_of_mem _ (List.mem_cons_of_mem _ (List.mem_cons_self ..))))
  replace hNa := Mine.news_re (l' := (D7, W.listOf rv.toArray 0) :: (D8, W.listOf rs.toArray rs.length) :: (C8, oC8) :: (I8, oI8) :: (DT, W.listOf us.toArray us.length) :: (TB, W.listOf cv.toArray (cv.length - 1)) :: (TK, W.listOf tv.toArray 0) :: news) hNa (by walk_at "n")
  clear hD7
  have hoffD : ∀ p ∈ news0, p.1 ≠ D8 := by
   rw [hn1]
   refine List.forall_mem_append.mpr ⟨Mine.nest_apart hP8 hP8 hNa (k := rs.length) (by k_mem) (fun p hp => ?_), List.forall_mem_append.mpr ⟨fun p hp => Nat.ne_of_lt (hosD p hp), n0e⟩⟩
   rw [hnews, hn1]; walk_at "m"
  have hnewsD : ∀ p ∈ news, p.1 ≠ D8 := Mine.news_apart hNa hnews hTI hTD (fun q hq => by walk_at "m") (ob := W.listOf rs.toArray rs.length) (by k_mem) (by intro ws; simp [W.listOf]) hoffD
  have hrs : rs.length ≤ 4 := by rw [hP8.1, List.length_take, Mine.tallyV_len]; exact Nat.min_le_right _ _
  (try k_unmd); (try k_unfold); (try dsimp only)
  refine append_K hFa hNa (Upd.tail (Nat.ne_of_gt h78) (Upd.head (List.forall_mem_cons.mpr ⟨Nat.ne_of_gt hDC, List.forall_mem_cons.mpr ⟨Nat.ne_of_lt (hDl _ (List.mem_cons_self ..)), List.forall_mem_cons.mpr ⟨Nat.ne_of_lt (hDl (DT, _) (by k_mem)), List.forall_mem_cons.mpr ⟨Nat.ne_of_lt (hDl (TB, _) (by k_mem)), List.forall_mem_cons.mpr ⟨Nat.ne_of_lt (hDl (TK, _) (by k_mem)), hnewsD⟩⟩⟩⟩⟩))) ?_ (Nat.le_trans (Nat.le_trans (Nat.le_of_eq List.size_toArray) hrs) (by rw [sizeLine_eq]; decide))
  clear hFa hNa
  intro h9 F9 N9
  (try k_unmd); (try k_unfold); (try dsimp only)
  rw [hn00] at hn1
  refine Mine.cp_row F9 N9 hn1 hnews hNC hTI hTD hP8.own ⟨?_, hTI, hTD⟩
  rw [Mine.nest_step hrow1]
  exact hP8.snoc hrow hrow2
 case ldone =>
  ((repeat ((with_reducible rename Fr g' L' _ _ => Fx9); clear Fx9)); (repeat ((with_reducible rename News g' L' _ _ => Nx9); clear Nx9)))
  clear hTI hTD
  intro D8
  refine Mine.tq4 ?_
  intro rs os2 tI tD h tk hP8 F5 N5
  ((first | refine Mine.exE hP8 ?_ | refine Mine.anE hP8 ?_); intro hP8 zo487; (first | refine Mine.exE zo487 ?_ | refine Mine.anE zo487 ?_); intro hTI hTD; clear zo487)
  (try dsimp only at hP8 hTI hTD N5)
  have hV : Mine.tallyV.take 4 = Mine.tallyV := List.take_of_length_le (Nat.le_of_eq Mine.tallyV_len)
  rw [hV] at hP8
  ((first | refine Mine.exE (Mine.nest_reads N5 (D := DT) (k := us.length) (by walk_at "m") (fun p hp => by walk_at "m") hNest) ?_ | refine Mine.anE (Mine.nest_reads N5 (D := DT) (k := us.length) (by walk_at "m") (fun p hp => by walk_at "m") hNest) ?_); intro as1 r1)
  ((first | refine Mine.exE (Mine.nest_reads N5 (D := D8) (k := rs.length) (List.mem_cons_self ..) (fun p hp => by walk_at "m") hP8) ?_ | refine Mine.anE (Mine.nest_reads N5 (D := D8) (k := rs.length) (List.mem_cons_self ..) (fun p hp => by walk_at "m") hP8) ?_); intro as2 r2)
  (refine Mine.nameE (a := tI ++ (tD ++ news0)) ?_; intro news hnews)
  have N6 := Mine.law_post N5 hnews
  clear N5 hP8 hNest hV
  (try k_unmd); (try k_unfold); (try dsimp only)
  refine Mine.ne_nests r1 r2 (by ke_room) ?_
  clear r1 r2
  (try k_unmd); (try k_unfold); (try dsimp only); walk_at "f"
  walk_at "~"
  unfold Mine.Stop
  with_reducible rename News g' L' _ _ => hN6
  with_reducible rename Fr g' L' _ _ => hF6
  refine kmk_slice_lit (its := tv.toArray) (zs := tv.drop 1) (lo := some 1) (hi := none) hF6 hN6 (News.isList hN6 (items := tv.toArray) (n := 0) (by k_mem)) (by kmk_part) (by kmk_part) (Mine.pick_drop tv 1) ?_ (by with_unfolding_all rfl) (by kmk_pure) (by simp only [List.size_toArray, htv.length, Mine.taken_len]; rw [sizeLine_eq]; decide)
  revert hF6 hN6
  ((repeat ((with_reducible rename Fr g' L' _ _ => Fx9); clear Fx9)); (repeat ((with_reducible rename News g' L' _ _ => Nx9); clear Nx9)))
  intro hF6 hN6
  clear hF6 hN6
  intro SP h2 hF6 hN6 hSP
  (try k_unmd); (try k_unfold); (try dsimp only); walk_at "f"
  walk_at "~"
  unfold Mine.Stop
  (try k_unmd); (try dsimp only)
  refine Mine.for_list1 (σ := Mine.Tree × Tok) (fun _ => []) (fun st => [(Str.ofString "drawn", .str (Mine.mk (Mine.flat c st.1)) st.2)]) [] (fun j st => Mine.size st.1 = j) (.leaf, ?ltk) hF6 hN6 rfl ?lhk rfl ?ltr ?ldn
  case lhk => intro p hp; rcases List.mem_singleton.mp hp with rfl; rfl
  case ltr =>
   clear hF6 hN6
   refine Mine.tq2 ?_
   intro t tt j v u2 I h tk oI hv hoI hP F5 N5
   ((first | refine Mine.exE (Mine.ints_get (Mine.ints_drop 1 htv) hv) ?_ | refine Mine.anE (Mine.ints_get (Mine.ints_drop 1 htv) hv) ?_); intro n zo488; (first | refine Mine.exE zo488 ?_ | refine Mine.anE zo488 ?_); intro tn zo489; clear zo488; subst zo489)
   dsimp only [List.nil_append] at hP N5
   dsimp only [kstB] at F5
   have hj5 : j < 5 := by
    have := (List.getElem?_eq_some_iff.mp hv).1
    rw [List.length_drop, htv.length, Mine.taken_len] at this
    exact this
   have hsz : Mine.size t ≤ 5 := by rw [hP]; exact Nat.le_of_lt hj5
   have hlen : (Mine.mk (Mine.flat c t)).length = 1 + 2 * Mine.size t := by rw [Mine.mk_length, Mine.flat_len]
   ((first | refine Mine.exE (Mine.spot_at n (1 + 2 * Mine.size t) (by omega)) ?_ | refine Mine.anE (Mine.spot_at n (1 + 2 * Mine.size t) (by omega)) ?_); intro i zo490; (first | refine Mine.exE zo490 ?_ | refine Mine.anE zo490 ?_); intro hi hmod; clear zo490)
   (try k_unmd); walk_at "f"
   walk_at "~"
   unfold Mine.Stop
   (try k_unmd); (try dsimp only)
   rw [hlen]
   refine mod_int' (by omega) ?_
   rw [hmod]
   (try k_unmd); (try k_unfold); (try dsimp only); walk_at "f"
   walk_at "~"
   ((try dsimp only); (try k_unmd); (try k_unfold); (try unfold Mine.LpPost); (try dsimp only); (first | (with_reducible rename Fr g' L' _ _ => hF9) | rename Fr g' L' _ _ => hF9); (first | (with_reducible rename News g' L' _ _ => hN9) | rename News g' L' _ _ => hN9); refine Mine.lp_end (Mine.putT t i, ?z167v) hF9 hN9 ?z167n ?z167i ?z167o ?z167k ?z167r ?z167p; (case z167k => walk_at "h"); (case z167n => first | (k_whole; (walk_at "n"); done) | kst_in); (case z167i => k_mem); (case z167o => first | exact List.forall_mem_nil _ | (intro p hp; rcases List.mem_singleton.mp hp with rfl; first | exact Mine.td_iter (by assumption) | exact Mine.td_isIter (by assumption)) | simp [Mine.isIter, Mine.iterNames, W.listOf]); (case z167r => walk_at "o"); (case z167p => (show Mine.size (Mine.putT t i) = j + 1; rw [Mine.size_put, hP])))
  case ldn =>
   clear hF6 hN6
   refine Mine.tq2 ?_
   intro t tt u2 h tk hP F5 N5
   dsimp only [List.nil_append] at hP N5
   dsimp only [kstB] at F5
   have ht5 : Mine.size t = 5 := by rw [hP, List.length_drop, htv.length, Mine.taken_len]
   clear hP
   have hspell := Mine.spell_rank ht5
   (refine Mine.foldG ?_; intro gk493; (first | refine Mine.exE (Mine.hook_rank ht5) ?_ | refine Mine.anE (Mine.hook_rank ht5) ?_); intro hp0 zo491; (first | refine Mine.exE zo491 ?_ | refine Mine.anE zo491 ?_); intro hp120 zo492; clear zo491; (first | refine Mine.exE zo492 ?_ | refine Mine.anE zo492 ?_); intro hpdiv hn273; clear zo492; unfold gk493; clear gk493)
   have N6 : News g' L' h ((TB, W.listOf cv.toArray (cv.length - 1)) :: (TK, W.listOf tv.toArray 0) :: news) := Mine.rd_dropT N5
   have F6 : Fr g' L' h _ := F5
   clear N5 F5
   have hgoG := trivial
   (try k_unmd); (try k_unfold); (try dsimp only); walk_at "f"
   walk_at "~"
   unfold Mine.Stop
   (try k_unmd); (try dsimp only)
   walk_at "f"; k_dflt (refine' Mine.read_c w TB cv (cv.length - 1) hcn c hc t (Nat.le_of_eq ht5) _ _ _ _ _ _ _ _ _ _ _ _ _ _ _ _ _ _ _ _ _ _ _ _ ?kB ?kF ?kX ?kN ?kT ?kK ?kP ?kd ?ku ?_; (case kB => k_asm); (case kF => k_asm); (case kX => k_asm); (case kN => k_asm); (case kT => k_asm); (case kK => first | exact rfl | assumption); (case kP => k_mem); (case kd => first | exact Mine.oDp (by with_reducible assumption) (by exact rfl) | exact Mine.oDq (by with_reducible assumption) (by exact rfl) | omega | ktr_room); (case ku => first | exact Mine.oDp (by with_reducible assumption) (by exact rfl) | exact Mine.oDq (by with_reducible assumption) (by exact rfl) | omega | ktr_units);  k_whole); intro v9 tl9 h9 tk9 hp9 F9 N9; (try dsimp only at hp9); ((refine Mine.foldG ?_; intro gk499; (first | refine Mine.exE hp9 ?_ | refine Mine.anE hp9 ?_); intro RT zo494; clear hp9; (first | refine Mine.exE zo494 ?_ | refine Mine.anE zo494 ?_); intro r1 zo495; clear zo494; (first | refine Mine.exE zo495 ?_ | refine Mine.anE zo495 ?_); intro r2 zo496; clear zo495; (first | refine Mine.exE zo496 ?_ | refine Mine.anE zo496 ?_); intro r3 zo497; clear zo496; (first | refine Mine.exE zo497 ?_ | refine Mine.anE zo497 ?_); intro r4 zo498; clear zo497; (first | refine Mine.exE zo498 ?_ | refine Mine.anE zo498 ?_); intro e1 e2; clear zo498; unfold gk499; clear gk499); cases e1; cases e2); (try dsimp only [List.nil_append, List.cons_append] at N9); (try dsimp only); walk_at "f"
   unfold Mine.entO at N9
   (try dsimp only at N9)
   (try k_unmd); (try k_unfold); (try dsimp only); walk_at "f"
   walk_at "~"
   unfold Mine.Stop
   with_reducible rename News g' L' _ _ => N7
   with_reducible rename Fr g' L' _ _ => F7
   (refine Mine.nameE (a := Mine.rankT t) ?_; intro rk hrk)
   rw [← hrk] at hspell hp0 hp120 hpdiv hn273 N7 ⊢
   have hb120 : Builtin.Int.intBits ((120 : Nat) : Int) ≤ 200 := by decide +kernel
   have hbp : Builtin.Int.intBits ((rk.2.2 : Nat) : Int) ≤ 200 := Nat.le_trans (Mine.bits_lt (m := 30) (by omega)) (by decide)
   have hn6 : rk.2.1 ≤ 1000000 := by omega
   revert F7 N7
   ((repeat ((with_reducible rename Fr g' L' _ _ => Fx9); clear Fx9)); (repeat ((with_reducible rename News g' L' _ _ => Nx9); clear Nx9)))
   intro F7 N7
   have hgoZ := trivial
   (try k_unmd); walk_at "f"
   walk_at "~"
   unfold Mine.Stop
   (try k_unmd); (try dsimp only)
   refine ne_str ?_
   rw [show (Mine.mk (Mine.flat c t) != Mine.mk (Mine.flat c t)) = false from by simp]
   with_reducible rename News g' L' _ _ => N8
   with_reducible rename Fr g' L' _ _ => F8
   revert F8 N8
   ((repeat ((with_reducible rename Fr g' L' _ _ => Fx9); clear Fx9)); (repeat ((with_reducible rename News g' L' _ _ => Nx9); clear Nx9)))
   intro F8 N8
   clear hgoZ
   have hgoT := trivial
   (try k_unmd); (try k_unfold); (try dsimp only); walk_at "f"
   walk_at "~"
   unfold Mine.Stop
   (try k_unmd); (try dsimp only)
   with_reducible rename News g' L' _ _ => N9
   with_reducible rename Fr g' L' _ _ => F9
   rw [hpdiv] at N9
   refine Mine.assign_two F9 N9 (List.mem_cons_self ..) rfl rfl rfl rfl rfl ?_
   revert F9 N9
   ((repeat ((with_reducible rename Fr g' L' _ _ => Fx9); clear Fx9)); (repeat ((with_reducible rename News g' L' _ _ => Nx9); clear Nx9)))
   intro F9 N9
   clear F9 N9 hgoT
   intro h2 tk2 F9 N9
   replace N9 := Mine.rd_dropT N9
   (try k_unmd); (try k_unfold); (try dsimp only); walk_at "f"
   walk_at "~"
   unfold Mine.Stop
   (try k_unmd); (try dsimp only)
   have hways := Mine.ways_rank hc ht5
   rw [← hrk] at hways
   walk_at "f"; k_dflt (refine' Mine.orders_c w (Mine.flat c t) 5 (by rw [Mine.flat_len]; omega) (by decide) (fun i hi => Mine.ordOk_of hc ht5 i hi) _ _ _ _ _ _ _ _ _ _ _ _ _ _ _ _ _ _ _ _ _ _ _ _ _ ?kB ?kF ?kX ?kN ?kT ?kK ?kP ?kd ?ku ?_; (case kB => k_asm); (case kF => k_asm); (case kX => k_asm); (case kN => k_asm); (case kT => k_asm); (case kK => first | exact rfl | assumption); (case kP => trivial); (case kd => first | exact Mine.oDp (by with_reducible assumption) (by exact rfl) | exact Mine.oDq (by with_reducible assumption) (by exact rfl) | omega | ktr_room); (case ku => first | exact Mine.oDp (by with_reducible assumption) (by exact rfl) | exact Mine.oDq (by with_reducible assumption) (by exact rfl) | omega | ktr_units);  k_whole); intro v9 tl9 h9 tk9 hp9 F9 N9; (try dsimp only at hp9); ((refine Mine.foldG ?_; intro gk504; (first | refine Mine.exE hp9 ?_ | refine Mine.anE hp9 ?_); intro d1 zo500; clear hp9; (first | refine Mine.exE zo500 ?_ | refine Mine.anE zo500 ?_); intro o1 zo501; clear zo500; (first | refine Mine.exE zo501 ?_ | refine Mine.anE zo501 ?_); intro e1 zo502; clear zo501; (first | refine Mine.exE zo502 ?_ | refine Mine.anE zo502 ?_); intro e2 zo503; clear zo502; (first | refine Mine.exE zo503 ?_ | refine Mine.anE zo503 ?_); intro hlo1 hTD1; clear zo503; unfold gk504; clear gk504); cases e1; cases e2); (try dsimp only [List.nil_append, List.cons_append] at N9); (try dsimp only); walk_at "f"
   rw [hways] at hTD1
   clear hways
   have hgoD := trivial
   (try k_unmd); (try k_unfold); (try dsimp only); walk_at "f"
   walk_at "~"
   unfold Mine.Stop
   (try k_unmd); (try dsimp only)
   with_reducible rename News g' L' _ _ => N10
   with_reducible rename Fr g' L' _ _ => F10
   with_reducible rename (_ == sysModules) = false => hlo2
   with_reducible rename PyProof.V.FlatPairs _ _ _ => hfp
   with_reducible rename Obj.IsDictOf _ _ (strPairs _) => hdd
   have hTD2 : Mine.TD PySem.Challenge.rw_ku0016_01.row.prog w _ [(Mine.mk [c], ((120 / rk.2.2 : Nat) : Int))] := ⟨_, hdd, hfp⟩
   refine Mine.ne_one N10 (List.mem_cons_of_mem _ (List.mem_cons_self ..)) (List.mem_cons_self ..) hlo1 hlo2 hTD1 hTD2 (by first | ktr_units | (show un + 3 + _ < cLine; ktr_units) | (show un + 3 < cLine; ktr_units)) ?_
   clear hTD1 hTD2 hdd hfp hgoD
   revert F10 N10
   ((repeat ((with_reducible rename Fr g' L' _ _ => Fx9); clear Fx9)); (repeat ((with_reducible rename News g' L' _ _ => Nx9); clear Nx9)))
   intro F10 N10
   replace N10 := Mine.rd_dropT (Mine.rd_dropT N10)
   have hSl := hS0.at fun o e => F10.keep _ o e
   (try k_unmd); (try k_unfold); (try dsimp only); walk_at "f"
   walk_at "~"
   unfold Mine.Stop
   (try k_unmd); (try dsimp only)
   walk_at "f"; k_dflt (refine' Mine.agrees_c w c hc t (Nat.le_of_eq ht5) _ _ _ _ _ _ _ _ _ _ _ _ _ _ _ _ _ _ _ _ _ _ _ _ _ _ ?kB ?kF ?kX ?kN ?kT ?kK ?kP ?kd ?ku ?_; (case kB => k_asm); (case kF => k_asm); (case kX => k_asm); (case kN => k_asm); (case kT => k_asm); (case kK => first | exact rfl | assumption); (case kP => trivial); (case kd => first | exact Mine.oDp (by with_reducible assumption) (by exact rfl) | exact Mine.oDq (by with_reducible assumption) (by exact rfl) | omega | ktr_room); (case ku => first | exact Mine.oDp (by with_reducible assumption) (by exact rfl) | exact Mine.oDq (by with_reducible assumption) (by exact rfl) | omega | ktr_units);  k_whole); intro v9 tl9 h9 tk9 hp9 F9 N9; (try dsimp only at hp9); (((first | refine Mine.exE hp9 ?_ | refine Mine.anE hp9 ?_); intro e1 e2; clear hp9); cases e1; cases e2); (try dsimp only [List.nil_append, List.cons_append] at N9); (try dsimp only); walk_at "f"
   (try k_unmd); (try k_unfold); (try dsimp only)
   with_reducible rename News g' L' _ _ => N12
   with_reducible rename Fr g' L' _ _ => F12
   ((first | refine Mine.exE hTI.mem2 ?_ | refine Mine.anE hTI.mem2 ?_); intro ps1 h73)
   ((first | refine Mine.exE hTD.mem2 ?_ | refine Mine.anE hTD.mem2 ?_); intro ps2 h80)
   have m73 : (73, tabObj ps1) ∈ news := by rw [hnews]; exact List.mem_append.mpr (.inl h73)
   have m80 : (80, tabObj ps2) ∈ news := by rw [hnews]; exact List.mem_append.mpr (.inr (List.mem_append.mpr (.inl h80)))
   refine ⟨⟨.inl ⟨.bool true, .bool true, [], rfl, fun _ => rfl, .bool _, ?post, fun _ => ⟨List.nodup_nil, fun _ h => nomatch h⟩⟩, fun b o e => F12.keep b o (by rw [hg']; exact e), rfl, by assumption⟩, GrownAt.of (ps := ps2) N12 (by walk_at "m"), GrownAt.of (ps := ps1) N12 (by walk_at "m"), trivial⟩
   case post => exact Mine.law_post_ok _
end
end
theorem PySem.Challenge.cw_ku0016_01_holds : PySem.Challenge.rw_ku0016_01.Holds := by
 exact Mine.law_holds
