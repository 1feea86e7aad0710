/- The three curves' parameters and the groups (printed by cv.py). -/
import Derived.Test.YthahnloabllniaaGreatDoorM21
section
set_option linter.unusedSimpArgs false
set_option linter.unusedVariables false
set_option maxRecDepth 20000
set_option maxHeartbeats 4000000
namespace Go.Vc
open Go.Proofs

/-! Letters that are numbers. -/
def dcB (B c : Nat) : Bool := (Nat.ble 48 c && Nat.ble c 57 || Nat.ble 97 c && Nat.ble c 102) && Nat.blt (dv c) B
def litOk (s : ByteArray) (B off N : Nat) : Bool := Nat.blt off s.size && Nat.blt s.size 400 && Nat.ble 48 (dg (bts s) 0) && ((bts s).drop off).all (dcB B) && Nat.beq (num B (digs s off)) N

theorem Lit.of {s : ByteArray} {base : Int} {B off N : Nat} (hp : Pre s base B off) (h : litOk s B off N = true) : Lit s base N := by
  simp only [litOk, Bool.and_eq_true] at h
  obtain ⟨⟨⟨⟨h1, h2⟩, h3⟩, h4⟩, h5⟩ := h
  have h1 : off < s.size := Nat.le_of_ble_eq_true h1
  refine ⟨B, off, hp, h1, Nat.le_of_ble_eq_true h2, Nat.le_of_ble_eq_true h3, fun i hi hs => ?_, Nat.eq_of_beq_eq_true h5⟩
  have hl : i - off < ((bts s).drop off).length := by rw [List.length_drop, bts_len]; omega
  have hm := dg_mem hl
  rw [dg_drop, show off + (i - off) = i by omega] at hm
  have hb := List.all_eq_true.1 h4 _ hm
  simp only [dcB, Bool.and_eq_true, Bool.or_eq_true] at hb
  refine ⟨?_, Nat.le_of_ble_eq_true hb.2⟩
  rcases hb.1 with h | h
  · exact .inl ⟨Nat.le_of_ble_eq_true h.1, Nat.le_of_ble_eq_true h.2⟩
  · exact .inr ⟨Nat.le_of_ble_eq_true h.1, Nat.le_of_ble_eq_true h.2⟩

theorem bfdR {w0 w : World} {K : Nat → Prop} {ps : List Nat} {vs : List Zn} {be : Addr} {N : Nat} {s : ByteArray} (E : Env w0 K be) (R : Rs w0 w K ps vs) (hl : Lit s 10 N) :
    CallX P 50 #[.string s] w fun v w' => ∃ q, v = pI q ∧ Rs w0 w' K (ps ++ [q]) (vs ++ [(false, N)]) := by
  obtain ⟨S, D, h, hr, F⟩ := R.all
  refine (bigFromDecimal_c h (E.eo F) hl).mono ?_
  rintro v w1 ⟨q, D1, hq, rfl, h1, f1⟩
  exact ⟨q, rfl, _, D1, h1, hr.snoc (fun p hp => by have := Rg.lt h hr p hp; omega) _, F.trans f1 (fun _ _ h => h)⟩

theorem bfhR {w0 w : World} {K : Nat → Prop} {ps : List Nat} {vs : List Zn} {be : Addr} {N : Nat} {s : ByteArray} (E : Env w0 K be) (R : Rs w0 w K ps vs) (hl : Lit s 16 N) :
    CallX P 51 #[.string s] w fun v w' => ∃ q, v = pI q ∧ Rs w0 w' K (ps ++ [q]) (vs ++ [(false, N)]) := by
  obtain ⟨S, D, h, hr, F⟩ := R.all
  refine (bigFromHex_c h (E.eo F) hl).mono ?_
  rintro v w1 ⟨q, D1, hq, rfl, h1, f1⟩
  exact ⟨q, rfl, _, D1, h1, hr.snoc (fun p hp => by have := Rg.lt h hr p hp; omega) _, F.trans f1 (fun _ _ h => h)⟩

theorem bldC (a b c d e : Nat) (bits : Int) (nm : ByteArray) (w : World) : (Instr.build 94 [(6, Value.string nm), (5, .int .i64 bits), (0, pI a), (1, pI b), (2, pI c), (3, pI d), (4, pI e)].toArray).run P w = .ok (.agg #[pI a, pI b, pI c, pI d, pI e, .int .i64 bits, .string nm]) w := by kernel_rfl
theorem bldG (c : Nat) (oa : Option Addr) (on oc : Nat) (w : World) : (Instr.build 73 [(0, cvV c), (1, Value.slice oa on oc)].toArray).run P w = .ok (wgV c (.slice oa on oc)) w := by kernel_rfl
theorem mkIC (c : Nat) (w : World) : (Instr.makeInterface 83 (pC c)).run P w = .ok (cvV c) w := by kernel_rfl
theorem mkIG (c : Nat) (o : Value) (w : World) : (Instr.makeInterface 73 (wgV c o)).run P w = .ok (.iface 73 (wgV c o)) w := by kernel_rfl

theorem lit256_0 : Lit (⟨#[49, 49, 53, 55, 57, 50, 48, 56, 57, 50, 49, 48, 51, 53, 54, 50, 52, 56, 55, 54, 50, 54, 57, 55, 52, 52, 54, 57, 52, 57, 52, 48, 55, 53, 55, 51, 53, 51, 48, 48, 56, 54, 49, 52, 51, 52, 49, 53, 50, 57, 48, 51, 49, 52, 49, 57, 53, 53, 51, 51, 54, 51, 49, 51, 48, 56, 56, 54, 55, 48, 57, 55, 56, 53, 51, 57, 53, 49]⟩ : ByteArray) 10 115792089210356248762697446949407573530086143415290314195533631308867097853951 := Lit.of (off := 0) (.inl ⟨rfl, rfl, rfl⟩) (by kernel_rfl)
theorem lit256_1 : Lit (⟨#[49, 49, 53, 55, 57, 50, 48, 56, 57, 50, 49, 48, 51, 53, 54, 50, 52, 56, 55, 54, 50, 54, 57, 55, 52, 52, 54, 57, 52, 57, 52, 48, 55, 53, 55, 51, 53, 50, 57, 57, 57, 54, 57, 53, 53, 50, 50, 52, 49, 51, 53, 55, 54, 48, 51, 52, 50, 52, 50, 50, 50, 53, 57, 48, 54, 49, 48, 54, 56, 53, 49, 50, 48, 52, 52, 51, 54, 57]⟩ : ByteArray) 10 115792089210356248762697446949407573529996955224135760342422259061068512044369 := Lit.of (off := 0) (.inl ⟨rfl, rfl, rfl⟩) (by kernel_rfl)
theorem lit256_2 : Lit (⟨#[53, 97, 99, 54, 51, 53, 100, 56, 97, 97, 51, 97, 57, 51, 101, 55, 98, 51, 101, 98, 98, 100, 53, 53, 55, 54, 57, 56, 56, 54, 98, 99, 54, 53, 49, 100, 48, 54, 98, 48, 99, 99, 53, 51, 98, 48, 102, 54, 51, 98, 99, 101, 51, 99, 51, 101, 50, 55, 100, 50, 54, 48, 52, 98]⟩ : ByteArray) 16 41058363725152142129326129780047268409114441015993725554835256314039467401291 := Lit.of (off := 0) (.inr <| .inl ⟨rfl, rfl, rfl⟩) (by kernel_rfl)
theorem lit256_3 : Lit (⟨#[54, 98, 49, 55, 100, 49, 102, 50, 101, 49, 50, 99, 52, 50, 52, 55, 102, 56, 98, 99, 101, 54, 101, 53, 54, 51, 97, 52, 52, 48, 102, 50, 55, 55, 48, 51, 55, 100, 56, 49, 50, 100, 101, 98, 51, 51, 97, 48, 102, 52, 97, 49, 51, 57, 52, 53, 100, 56, 57, 56, 99, 50, 57, 54]⟩ : ByteArray) 16 48439561293906451759052585252797914202762949526041747995844080717082404635286 := Lit.of (off := 0) (.inr <| .inl ⟨rfl, rfl, rfl⟩) (by kernel_rfl)
theorem lit256_4 : Lit (⟨#[52, 102, 101, 51, 52, 50, 101, 50, 102, 101, 49, 97, 55, 102, 57, 98, 56, 101, 101, 55, 101, 98, 52, 97, 55, 99, 48, 102, 57, 101, 49, 54, 50, 98, 99, 101, 51, 51, 53, 55, 54, 98, 51, 49, 53, 101, 99, 101, 99, 98, 98, 54, 52, 48, 54, 56, 51, 55, 98, 102, 53, 49, 102, 53]⟩ : ByteArray) 16 36134250956749795798585127919587881956611106672985015071877198253568414405109 := Lit.of (off := 0) (.inr <| .inl ⟨rfl, rfl, rfl⟩) (by kernel_rfl)

theorem lit384_0 : Lit (⟨#[51, 57, 52, 48, 50, 48, 48, 54, 49, 57, 54, 51, 57, 52, 52, 55, 57, 50, 49, 50, 50, 55, 57, 48, 52, 48, 49, 48, 48, 49, 52, 51, 54, 49, 51, 56, 48, 53, 48, 55, 57, 55, 51, 57, 50, 55, 48, 52, 54, 53, 52, 52, 54, 54, 54, 55, 57, 52, 56, 50, 57, 51, 52, 48, 52, 50, 52, 53, 55, 50, 49, 55, 55, 49, 52, 57, 54, 56, 55, 48, 51, 50, 57, 48, 52, 55, 50, 54, 54, 48, 56, 56, 50, 53, 56, 57, 51, 56, 48, 48, 49, 56, 54, 49, 54, 48, 54, 57, 55, 51, 49, 49, 50, 51, 49, 57]⟩ : ByteArray) 10 39402006196394479212279040100143613805079739270465446667948293404245721771496870329047266088258938001861606973112319 := Lit.of (off := 0) (.inl ⟨rfl, rfl, rfl⟩) (by kernel_rfl)
theorem lit384_1 : Lit (⟨#[51, 57, 52, 48, 50, 48, 48, 54, 49, 57, 54, 51, 57, 52, 52, 55, 57, 50, 49, 50, 50, 55, 57, 48, 52, 48, 49, 48, 48, 49, 52, 51, 54, 49, 51, 56, 48, 53, 48, 55, 57, 55, 51, 57, 50, 55, 48, 52, 54, 53, 52, 52, 54, 54, 54, 55, 57, 52, 54, 57, 48, 53, 50, 55, 57, 54, 50, 55, 54, 53, 57, 51, 57, 57, 49, 49, 51, 50, 54, 51, 53, 54, 57, 51, 57, 56, 57, 53, 54, 51, 48, 56, 49, 53, 50, 50, 57, 52, 57, 49, 51, 53, 53, 52, 52, 51, 51, 54, 53, 51, 57, 52, 50, 54, 52, 51]⟩ : ByteArray) 10 39402006196394479212279040100143613805079739270465446667946905279627659399113263569398956308152294913554433653942643 := Lit.of (off := 0) (.inl ⟨rfl, rfl, rfl⟩) (by kernel_rfl)
theorem lit384_2 : Lit (⟨#[98, 51, 51, 49, 50, 102, 97, 55, 101, 50, 51, 101, 101, 55, 101, 52, 57, 56, 56, 101, 48, 53, 54, 98, 101, 51, 102, 56, 50, 100, 49, 57, 49, 56, 49, 100, 57, 99, 54, 101, 102, 101, 56, 49, 52, 49, 49, 50, 48, 51, 49, 52, 48, 56, 56, 102, 53, 48, 49, 51, 56, 55, 53, 97, 99, 54, 53, 54, 51, 57, 56, 100, 56, 97, 50, 101, 100, 49, 57, 100, 50, 97, 56, 53, 99, 56, 101, 100, 100, 51, 101, 99, 50, 97, 101, 102]⟩ : ByteArray) 16 27580193559959705877849011840389048093056905856361568521428707301988689241309860865136260764883745107765439761230575 := Lit.of (off := 0) (.inr <| .inl ⟨rfl, rfl, rfl⟩) (by kernel_rfl)
theorem lit384_3 : Lit (⟨#[97, 97, 56, 55, 99, 97, 50, 50, 98, 101, 56, 98, 48, 53, 51, 55, 56, 101, 98, 49, 99, 55, 49, 101, 102, 51, 50, 48, 97, 100, 55, 52, 54, 101, 49, 100, 51, 98, 54, 50, 56, 98, 97, 55, 57, 98, 57, 56, 53, 57, 102, 55, 52, 49, 101, 48, 56, 50, 53, 52, 50, 97, 51, 56, 53, 53, 48, 50, 102, 50, 53, 100, 98, 102, 53, 53, 50, 57, 54, 99, 51, 97, 53, 52, 53, 101, 51, 56, 55, 50, 55, 54, 48, 97, 98, 55]⟩ : ByteArray) 16 26247035095799689268623156744566981891852923491109213387815615900925518854738050089022388053975719786650872476732087 := Lit.of (off := 0) (.inr <| .inl ⟨rfl, rfl, rfl⟩) (by kernel_rfl)
theorem lit384_4 : Lit (⟨#[51, 54, 49, 55, 100, 101, 52, 97, 57, 54, 50, 54, 50, 99, 54, 102, 53, 100, 57, 101, 57, 56, 98, 102, 57, 50, 57, 50, 100, 99, 50, 57, 102, 56, 102, 52, 49, 100, 98, 100, 50, 56, 57, 97, 49, 52, 55, 99, 101, 57, 100, 97, 51, 49, 49, 51, 98, 53, 102, 48, 98, 56, 99, 48, 48, 97, 54, 48, 98, 49, 99, 101, 49, 100, 55, 101, 56, 49, 57, 100, 55, 97, 52, 51, 49, 100, 55, 99, 57, 48, 101, 97, 48, 101, 53, 102]⟩ : ByteArray) 16 8325710961489029985546751289520108179287853048861315594709205902480503199884419224438643760392947333078086511627871 := Lit.of (off := 0) (.inr <| .inl ⟨rfl, rfl, rfl⟩) (by kernel_rfl)

theorem lit521_0 : Lit (⟨#[54, 56, 54, 52, 55, 57, 55, 54, 54, 48, 49, 51, 48, 54, 48, 57, 55, 49, 52, 57, 56, 49, 57, 48, 48, 55, 57, 57, 48, 56, 49, 51, 57, 51, 50, 49, 55, 50, 54, 57, 52, 51, 53, 51, 48, 48, 49, 52, 51, 51, 48, 53, 52, 48, 57, 51, 57, 52, 52, 54, 51, 52, 53, 57, 49, 56, 53, 53, 52, 51, 49, 56, 51, 51, 57, 55, 54, 53, 54, 48, 53, 50, 49, 50, 50, 53, 53, 57, 54, 52, 48, 54, 54, 49, 52, 53, 52, 53, 53, 52, 57, 55, 55, 50, 57, 54, 51, 49, 49, 51, 57, 49, 52, 56, 48, 56, 53, 56, 48, 51, 55, 49, 50, 49, 57, 56, 55, 57, 57, 57, 55, 49, 54, 54, 52, 51, 56, 49, 50, 53, 55, 52, 48, 50, 56, 50, 57, 49, 49, 49, 53, 48, 53, 55, 49, 53, 49]⟩ : ByteArray) 10 6864797660130609714981900799081393217269435300143305409394463459185543183397656052122559640661454554977296311391480858037121987999716643812574028291115057151 := Lit.of (off := 0) (.inl ⟨rfl, rfl, rfl⟩) (by kernel_rfl)
theorem lit521_1 : Lit (⟨#[54, 56, 54, 52, 55, 57, 55, 54, 54, 48, 49, 51, 48, 54, 48, 57, 55, 49, 52, 57, 56, 49, 57, 48, 48, 55, 57, 57, 48, 56, 49, 51, 57, 51, 50, 49, 55, 50, 54, 57, 52, 51, 53, 51, 48, 48, 49, 52, 51, 51, 48, 53, 52, 48, 57, 51, 57, 52, 52, 54, 51, 52, 53, 57, 49, 56, 53, 53, 52, 51, 49, 56, 51, 51, 57, 55, 54, 53, 53, 51, 57, 52, 50, 52, 53, 48, 53, 55, 55, 52, 54, 51, 51, 51, 50, 49, 55, 49, 57, 55, 53, 51, 50, 57, 54, 51, 57, 57, 54, 51, 55, 49, 51, 54, 51, 51, 50, 49, 49, 49, 51, 56, 54, 52, 55, 54, 56, 54, 49, 50, 52, 52, 48, 51, 56, 48, 51, 52, 48, 51, 55, 50, 56, 48, 56, 56, 57, 50, 55, 48, 55, 48, 48, 53, 52, 52, 57]⟩ : ByteArray) 10 6864797660130609714981900799081393217269435300143305409394463459185543183397655394245057746333217197532963996371363321113864768612440380340372808892707005449 := Lit.of (off := 0) (.inl ⟨rfl, rfl, rfl⟩) (by kernel_rfl)
theorem lit521_2 : Lit (⟨#[48, 48, 53, 49, 57, 53, 51, 101, 98, 57, 54, 49, 56, 101, 49, 99, 57, 97, 49, 102, 57, 50, 57, 97, 50, 49, 97, 48, 98, 54, 56, 53, 52, 48, 101, 101, 97, 50, 100, 97, 55, 50, 53, 98, 57, 57, 98, 51, 49, 53, 102, 51, 98, 56, 98, 52, 56, 57, 57, 49, 56, 101, 102, 49, 48, 57, 101, 49, 53, 54, 49, 57, 51, 57, 53, 49, 101, 99, 55, 101, 57, 51, 55, 98, 49, 54, 53, 50, 99, 48, 98, 100, 51, 98, 98, 49, 98, 102, 48, 55, 51, 53, 55, 51, 100, 102, 56, 56, 51, 100, 50, 99, 51, 52, 102, 49, 101, 102, 52, 53, 49, 102, 100, 52, 54, 98, 53, 48, 51, 102, 48, 48]⟩ : ByteArray) 16 1093849038073734274511112390766805569936207598951683748994586394495953116150735016013708737573759623248592132296706313309438452531591012912142327488478985984 := Lit.of (off := 0) (.inr <| .inl ⟨rfl, rfl, rfl⟩) (by kernel_rfl)
theorem lit521_3 : Lit (⟨#[48, 48, 99, 54, 56, 53, 56, 101, 48, 54, 98, 55, 48, 52, 48, 52, 101, 57, 99, 100, 57, 101, 51, 101, 99, 98, 54, 54, 50, 51, 57, 53, 98, 52, 52, 50, 57, 99, 54, 52, 56, 49, 51, 57, 48, 53, 51, 102, 98, 53, 50, 49, 102, 56, 50, 56, 97, 102, 54, 48, 54, 98, 52, 100, 51, 100, 98, 97, 97, 49, 52, 98, 53, 101, 55, 55, 101, 102, 101, 55, 53, 57, 50, 56, 102, 101, 49, 100, 99, 49, 50, 55, 97, 50, 102, 102, 97, 56, 100, 101, 51, 51, 52, 56, 98, 51, 99, 49, 56, 53, 54, 97, 52, 50, 57, 98, 102, 57, 55, 101, 55, 101, 51, 49, 99, 50, 101, 53, 98, 100, 54, 54]⟩ : ByteArray) 16 2661740802050217063228768716723360960729859168756973147706671368418802944996427808491545080627771902352094241225065558662157113545570916814161637315895999846 := Lit.of (off := 0) (.inr <| .inl ⟨rfl, rfl, rfl⟩) (by kernel_rfl)
theorem lit521_4 : Lit (⟨#[48, 49, 49, 56, 51, 57, 50, 57, 54, 97, 55, 56, 57, 97, 51, 98, 99, 48, 48, 52, 53, 99, 56, 97, 53, 102, 98, 52, 50, 99, 55, 100, 49, 98, 100, 57, 57, 56, 102, 53, 52, 52, 52, 57, 53, 55, 57, 98, 52, 52, 54, 56, 49, 55, 97, 102, 98, 100, 49, 55, 50, 55, 51, 101, 54, 54, 50, 99, 57, 55, 101, 101, 55, 50, 57, 57, 53, 101, 102, 52, 50, 54, 52, 48, 99, 53, 53, 48, 98, 57, 48, 49, 51, 102, 97, 100, 48, 55, 54, 49, 51, 53, 51, 99, 55, 48, 56, 54, 97, 50, 55, 50, 99, 50, 52, 48, 56, 56, 98, 101, 57, 52, 55, 54, 57, 102, 100, 49, 54, 54, 53, 48]⟩ : ByteArray) 16 3757180025770020463545507224491183603594455134769762486694567779615544477440556316691234405012945539562144444537289428522585666729196580810124344277578376784 := Lit.of (off := 0) (.inr <| .inl ⟨rfl, rfl, rfl⟩) (by kernel_rfl)

theorem litC256 : Lit (⟨#[48, 120, 55, 56, 98, 99, 55, 49, 97, 48, 50, 100, 56, 57, 101, 99, 48, 55, 50, 49, 52, 54, 50, 51, 102, 54, 100, 48, 102, 57, 53, 53, 48, 55, 50, 99, 55, 99, 99, 48, 53, 54, 48, 52, 97, 53, 97, 54, 101, 50, 51, 102, 102, 98, 102, 54, 55, 49, 49, 53, 102, 97, 53, 51, 48, 49]⟩ : ByteArray) 0 54610493293894747874878264174204470126516981501497076827545162717791335895809 := Lit.of (off := 2) (.inr <| .inr ⟨rfl, rfl, rfl, by kernel_rfl, by kernel_rfl⟩) (by kernel_rfl)

theorem litC384 : Lit (⟨#[48, 120, 49, 57, 56, 55, 55, 99, 99, 49, 48, 52, 49, 98, 55, 53, 53, 53, 55, 52, 51, 99, 48, 97, 101, 50, 101, 51, 97, 51, 101, 54, 49, 102, 98, 50, 97, 97, 97, 50, 101, 48, 101, 56, 55, 101, 97, 53, 53, 55, 97, 53, 54, 51, 100, 56, 98, 53, 57, 56, 97, 48, 57, 52, 48, 100, 48, 97, 54, 57, 55, 97, 57, 101, 48, 98, 57, 101, 57, 50, 99, 102, 97, 97, 51, 49, 52, 102, 53, 56, 51, 99, 57, 100, 48, 54, 54]⟩ : ByteArray) 0 245581924330355933059354953436454308283684637692875694451750329610872227127112066054762383127358415667364631269478 := Lit.of (off := 2) (.inr <| .inr ⟨rfl, rfl, rfl, by kernel_rfl, by kernel_rfl⟩) (by kernel_rfl)

/-- The three curves: size of the field, numbers. -/
def Cv (bits : Nat) (f : Int → Sp) : Prop := (bits = 256 ∧ f = sp256) ∨ (bits = 384 ∧ f = sp384) ∨ (bits = 521 ∧ f = sp521)

/-- What P256, P384 and P521 hand out. -/
def CurveR (w0 w' : World) (K : Nat → Prop) (be : Addr) (f : Int → Sp) (bits : Nat) (v : Value) : Prop := ∃ c qp qb K', v = pC c ∧ Cu w' c qp qb bits ∧ K' c ∧ (∀ b, K b → K' b) ∧ Env w' K' be ∧ Rs w' w' K' [qp, qb] [(false, (f 0).p), zi (f 0).B] ∧ Fm (fun b => ¬ K b) w0 w'

theorem P256_c {w0 w : World} {K : Nat → Prop} {be : Addr} (E : Env w0 K be) (R : Rs w0 w K [] []) : CallX P 37 #[] w fun v w' => CurveR w0 w' K be sp256 256 v := by
  refine calls_vc mo fn_37 rfl ok_37 (Nat.le_of_ble_eq_true rfl) nm_37 ?_
  (refine vsr ?_)
  (repeat refine vcl_v _ rfl rfl ?_); (refine vcl_end ?_)
  refine (bfdR E R lit256_0).mono ?_
  rintro _ w1 ⟨q0, rfl, R⟩
  refine (bfdR E R lit256_1).mono ?_
  rintro _ w2 ⟨q1, rfl, R⟩
  refine (bfhR E R lit256_2).mono ?_
  rintro _ w3 ⟨q2, rfl, R⟩
  refine (bfhR E R lit256_3).mono ?_
  rintro _ w4 ⟨q3, rfl, R⟩
  refine (bfhR E R lit256_4).mono ?_
  rintro _ w5 ⟨q4, rfl, R⟩
  refine rnA (bldC _ _ _ _ _ _ _) ?_
  obtain ⟨w6, e6, c6, f6, s6⟩ := bx 94 (v := .agg #[pI q0, pI q1, pI q2, pI q3, pI q4, .int .i64 (256 : Int), .string _]) (cs := [pI q0, pI q1, pI q2, pI q3, pI q4, .int .i64 (256 : Int), .string _]) rfl w5
  refine ⟨_, w6, e6, ?_⟩
  obtain ⟨K1, E1, R1, hsub, hnew, hout⟩ := keepR E R f6
  exact ⟨rfl, w5.heap.size, q0, q2, K1, rfl, ⟨q1, q3, q4, _, c6⟩, hnew _ (Nat.le_refl _) (by omega), hsub, E1, R1.two (i := 0) (j := 2) rfl rfl rfl (by kernel_rfl) (by decide), hout (Fm.refl _ _)⟩

theorem P384_c {w0 w : World} {K : Nat → Prop} {be : Addr} (E : Env w0 K be) (R : Rs w0 w K [] []) : CallX P 33 #[] w fun v w' => CurveR w0 w' K be sp384 384 v := by
  refine calls_vc mo fn_33 rfl ok_33 (Nat.le_of_ble_eq_true rfl) nm_33 ?_
  (refine vsr ?_)
  (repeat refine vcl_v _ rfl rfl ?_); (refine vcl_end ?_)
  refine (bfdR E R lit384_0).mono ?_
  rintro _ w1 ⟨q0, rfl, R⟩
  refine (bfdR E R lit384_1).mono ?_
  rintro _ w2 ⟨q1, rfl, R⟩
  refine (bfhR E R lit384_2).mono ?_
  rintro _ w3 ⟨q2, rfl, R⟩
  refine (bfhR E R lit384_3).mono ?_
  rintro _ w4 ⟨q3, rfl, R⟩
  refine (bfhR E R lit384_4).mono ?_
  rintro _ w5 ⟨q4, rfl, R⟩
  refine rnA (bldC _ _ _ _ _ _ _) ?_
  obtain ⟨w6, e6, c6, f6, s6⟩ := bx 94 (v := .agg #[pI q0, pI q1, pI q2, pI q3, pI q4, .int .i64 (384 : Int), .string _]) (cs := [pI q0, pI q1, pI q2, pI q3, pI q4, .int .i64 (384 : Int), .string _]) rfl w5
  refine ⟨_, w6, e6, ?_⟩
  obtain ⟨K1, E1, R1, hsub, hnew, hout⟩ := keepR E R f6
  exact ⟨rfl, w5.heap.size, q0, q2, K1, rfl, ⟨q1, q3, q4, _, c6⟩, hnew _ (Nat.le_refl _) (by omega), hsub, E1, R1.two (i := 0) (j := 2) rfl rfl rfl (by kernel_rfl) (by decide), hout (Fm.refl _ _)⟩

theorem P521_c {w0 w : World} {K : Nat → Prop} {be : Addr} (E : Env w0 K be) (R : Rs w0 w K [] []) : CallX P 35 #[] w fun v w' => CurveR w0 w' K be sp521 521 v := by
  refine calls_vc mo fn_35 rfl ok_35 (Nat.le_of_ble_eq_true rfl) nm_35 ?_
  (refine vsr ?_)
  (repeat refine vcl_v _ rfl rfl ?_); (refine vcl_end ?_)
  refine (bfdR E R lit521_0).mono ?_
  rintro _ w1 ⟨q0, rfl, R⟩
  refine (bfdR E R lit521_1).mono ?_
  rintro _ w2 ⟨q1, rfl, R⟩
  refine (bfhR E R lit521_2).mono ?_
  rintro _ w3 ⟨q2, rfl, R⟩
  refine (bfhR E R lit521_3).mono ?_
  rintro _ w4 ⟨q3, rfl, R⟩
  refine (bfhR E R lit521_4).mono ?_
  rintro _ w5 ⟨q4, rfl, R⟩
  refine rnA (bldC _ _ _ _ _ _ _) ?_
  obtain ⟨w6, e6, c6, f6, s6⟩ := bx 94 (v := .agg #[pI q0, pI q1, pI q2, pI q3, pI q4, .int .i64 (521 : Int), .string _]) (cs := [pI q0, pI q1, pI q2, pI q3, pI q4, .int .i64 (521 : Int), .string _]) rfl w5
  refine ⟨_, w6, e6, ?_⟩
  obtain ⟨K1, E1, R1, hsub, hnew, hout⟩ := keepR E R f6
  exact ⟨rfl, w5.heap.size, q0, q2, K1, rfl, ⟨q1, q3, q4, _, c6⟩, hnew _ (Nat.le_refl _) (by omega), hsub, E1, R1.two (i := 0) (j := 2) rfl rfl rfl (by kernel_rfl) (by decide), hout (Fm.refl _ _)⟩

theorem orderP256_c (w : World) : CallX P 38 #[] w fun v w' => ∃ b, v = .slice (some ⟨b, 0, none⟩) 32 32 ∧ Fm (fun _ => False) w w' := by
  refine calls_vc mo fn_38 rfl ok_38 (Nat.le_of_ble_eq_true rfl) nm_38 ?_
  (refine vsr ?_)
  (repeat refine vcl_v _ rfl rfl ?_); (refine vcl_end ?_)
  refine ⟨.slice (some ⟨w.heap.size, 0, none⟩) 32 32, w.alloc (.cells #[.int .u8 255, .int .u8 255, .int .u8 255, .int .u8 255, .int .u8 0, .int .u8 0, .int .u8 0, .int .u8 0, .int .u8 255, .int .u8 255, .int .u8 255, .int .u8 255, .int .u8 255, .int .u8 255, .int .u8 255, .int .u8 255, .int .u8 188, .int .u8 230, .int .u8 250, .int .u8 173, .int .u8 167, .int .u8 23, .int .u8 158, .int .u8 132, .int .u8 243, .int .u8 185, .int .u8 202, .int .u8 194, .int .u8 252, .int .u8 99, .int .u8 37, .int .u8 81] 5), by kernel_rfl, ?_⟩
  exact ⟨rfl, _, rfl, alloc_fm w _⟩

theorem orderP384_c (w : World) : CallX P 34 #[] w fun v w' => ∃ b, v = .slice (some ⟨b, 0, none⟩) 48 48 ∧ Fm (fun _ => False) w w' := by
  refine calls_vc mo fn_34 rfl ok_34 (Nat.le_of_ble_eq_true rfl) nm_34 ?_
  (refine vsr ?_)
  (repeat refine vcl_v _ rfl rfl ?_); (refine vcl_end ?_)
  refine ⟨.slice (some ⟨w.heap.size, 0, none⟩) 48 48, w.alloc (.cells #[.int .u8 255, .int .u8 255, .int .u8 255, .int .u8 255, .int .u8 255, .int .u8 255, .int .u8 255, .int .u8 255, .int .u8 255, .int .u8 255, .int .u8 255, .int .u8 255, .int .u8 255, .int .u8 255, .int .u8 255, .int .u8 255, .int .u8 255, .int .u8 255, .int .u8 255, .int .u8 255, .int .u8 255, .int .u8 255, .int .u8 255, .int .u8 255, .int .u8 199, .int .u8 99, .int .u8 77, .int .u8 129, .int .u8 244, .int .u8 55, .int .u8 45, .int .u8 223, .int .u8 88, .int .u8 26, .int .u8 13, .int .u8 178, .int .u8 72, .int .u8 176, .int .u8 167, .int .u8 122, .int .u8 236, .int .u8 236, .int .u8 25, .int .u8 106, .int .u8 204, .int .u8 197, .int .u8 41, .int .u8 115] 5), by kernel_rfl, ?_⟩
  exact ⟨rfl, _, rfl, alloc_fm w _⟩

theorem orderP521_c (w : World) : CallX P 36 #[] w fun v w' => ∃ b, v = .slice (some ⟨b, 0, none⟩) 66 66 ∧ Fm (fun _ => False) w w' := by
  refine calls_vc mo fn_36 rfl ok_36 (Nat.le_of_ble_eq_true rfl) nm_36 ?_
  (refine vsr ?_)
  (repeat refine vcl_v _ rfl rfl ?_); (refine vcl_end ?_)
  refine ⟨.slice (some ⟨w.heap.size, 0, none⟩) 66 66, w.alloc (.cells #[.int .u8 1, .int .u8 255, .int .u8 255, .int .u8 255, .int .u8 255, .int .u8 255, .int .u8 255, .int .u8 255, .int .u8 255, .int .u8 255, .int .u8 255, .int .u8 255, .int .u8 255, .int .u8 255, .int .u8 255, .int .u8 255, .int .u8 255, .int .u8 255, .int .u8 255, .int .u8 255, .int .u8 255, .int .u8 255, .int .u8 255, .int .u8 255, .int .u8 255, .int .u8 255, .int .u8 255, .int .u8 255, .int .u8 255, .int .u8 255, .int .u8 255, .int .u8 255, .int .u8 255, .int .u8 250, .int .u8 81, .int .u8 134, .int .u8 135, .int .u8 131, .int .u8 191, .int .u8 47, .int .u8 150, .int .u8 107, .int .u8 127, .int .u8 204, .int .u8 1, .int .u8 72, .int .u8 247, .int .u8 9, .int .u8 165, .int .u8 208, .int .u8 59, .int .u8 181, .int .u8 201, .int .u8 184, .int .u8 137, .int .u8 156, .int .u8 71, .int .u8 174, .int .u8 187, .int .u8 111, .int .u8 183, .int .u8 30, .int .u8 145, .int .u8 56, .int .u8 100, .int .u8 9] 5), by kernel_rfl, ?_⟩
  exact ⟨rfl, _, rfl, alloc_fm w _⟩

/-- What a group's maker hands out. -/
def GroupR (w0 w' : World) (K : Nat → Prop) (be : Addr) (f : Int → Sp) (bits : Nat) (v : Value) : Prop := ∃ c qp qb oa on oc K', v = .iface 73 (wgV c (.slice oa on oc)) ∧ Cu w' c qp qb bits ∧ K' c ∧ (∀ b, K b → K' b) ∧ Env w' K' be ∧ Rs w' w' K' [qp, qb] [(false, (f 0).p), zi (f 0).B] ∧ Fm (fun b => ¬ K b) w0 w'

theorem gP256_c {w0 w : World} {K : Nat → Prop} {be : Addr} (E : Env w0 K be) (R : Rs w0 w K [] []) : CallX P 23 #[] w fun v w' => GroupR w0 w' K be sp256 256 v := by
  refine calls_vc mo fn_23 rfl ok_23 (Nat.le_of_ble_eq_true rfl) nm_23 ?_
  (refine vsr ?_)
  (repeat refine vcl_v _ rfl rfl ?_); (refine vcl_end ?_)
  refine (P256_c E R).mono ?_
  rintro _ w1 ⟨c, qp, qb, K1, rfl, hCu, hKc, hsub, E1, R1, F1⟩
  refine rnA (mkIC c) ?_
  refine (orderP256_c w1).mono ?_
  rintro _ w2 ⟨b, rfl, f2⟩
  refine rnA (bldG _ _ _ _) ?_
  refine rnA (mkIG _ _) ?_
  obtain ⟨K2, E2, R2, hsub2, hnew2, hout2⟩ := keepR E1 R1 f2
  exact ⟨rfl, c, qp, qb, _, _, _, K2, rfl, hCu.fm f2 (fun h => h), hsub2 c hKc, fun b hb => hsub2 b (hsub b hb), E2, R2, F1.trans (hout2 (Fm.refl _ _)) (fun b _ e hk => e (hsub b hk))⟩

theorem gP384_c {w0 w : World} {K : Nat → Prop} {be : Addr} (E : Env w0 K be) (R : Rs w0 w K [] []) : CallX P 21 #[] w fun v w' => GroupR w0 w' K be sp384 384 v := by
  refine calls_vc mo fn_21 rfl ok_21 (Nat.le_of_ble_eq_true rfl) nm_21 ?_
  (refine vsr ?_)
  (repeat refine vcl_v _ rfl rfl ?_); (refine vcl_end ?_)
  refine (P384_c E R).mono ?_
  rintro _ w1 ⟨c, qp, qb, K1, rfl, hCu, hKc, hsub, E1, R1, F1⟩
  refine rnA (mkIC c) ?_
  refine (orderP384_c w1).mono ?_
  rintro _ w2 ⟨b, rfl, f2⟩
  refine rnA (bldG _ _ _ _) ?_
  refine rnA (mkIG _ _) ?_
  obtain ⟨K2, E2, R2, hsub2, hnew2, hout2⟩ := keepR E1 R1 f2
  exact ⟨rfl, c, qp, qb, _, _, _, K2, rfl, hCu.fm f2 (fun h => h), hsub2 c hKc, fun b hb => hsub2 b (hsub b hb), E2, R2, F1.trans (hout2 (Fm.refl _ _)) (fun b _ e hk => e (hsub b hk))⟩

theorem gP521_c {w0 w : World} {K : Nat → Prop} {be : Addr} (E : Env w0 K be) (R : Rs w0 w K [] []) : CallX P 22 #[] w fun v w' => GroupR w0 w' K be sp521 521 v := by
  refine calls_vc mo fn_22 rfl ok_22 (Nat.le_of_ble_eq_true rfl) nm_22 ?_
  (refine vsr ?_)
  (repeat refine vcl_v _ rfl rfl ?_); (refine vcl_end ?_)
  refine (P521_c E R).mono ?_
  rintro _ w1 ⟨c, qp, qb, K1, rfl, hCu, hKc, hsub, E1, R1, F1⟩
  refine rnA (mkIC c) ?_
  refine (orderP521_c w1).mono ?_
  rintro _ w2 ⟨b, rfl, f2⟩
  refine rnA (bldG _ _ _ _) ?_
  refine rnA (mkIG _ _) ?_
  obtain ⟨K2, E2, R2, hsub2, hnew2, hout2⟩ := keepR E1 R1 f2
  exact ⟨rfl, c, qp, qb, _, _, _, K2, rfl, hCu.fm f2 (fun h => h), hsub2 c hKc, fun b hb => hsub2 b (hsub b hb), E2, R2, F1.trans (hout2 (Fm.refl _ _)) (fun b _ e hk => e (hsub b hk))⟩

structure SpB (s : Sp) : Prop where
  p9 : s.p < BW ^ 9
  p1 : BW ≤ s.p
  c1 : BW ≤ s.c
  z9 : s.Z.natAbs < BW ^ 9
  c9 : s.C2.natAbs < BW ^ 9

theorem spb256 (u : Int) : SpB (sp256 u) where
  p9 := show 115792089210356248762697446949407573530086143415290314195533631308867097853951 < BW ^ 9 from Nat.le_of_ble_eq_true (by kernel_rfl)
  p1 := show BW ≤ 115792089210356248762697446949407573530086143415290314195533631308867097853951 from Nat.le_of_ble_eq_true (by kernel_rfl)
  c1 := show BW ≤ 28948022302589062190674361737351893382521535853822578548883407827216774463487 from Nat.le_of_ble_eq_true (by kernel_rfl)
  z9 := show 10 < BW ^ 9 from Nat.le_of_ble_eq_true (by kernel_rfl)
  c9 := show 54610493293894747874878264174204470126516981501497076827545162717791335895809 < BW ^ 9 from Nat.le_of_ble_eq_true (by kernel_rfl)
theorem zc256 (u : Int) : zi (sp256 u).C2 = (false, 54610493293894747874878264174204470126516981501497076827545162717791335895809) := by kernel_rfl
theorem zb256 (u : Int) : zi (sp256 u).B = (false, 41058363725152142129326129780047268409114441015993725554835256314039467401291) := by kernel_rfl
theorem spb384 (u : Int) : SpB (sp384 u) where
  p9 := show 39402006196394479212279040100143613805079739270465446667948293404245721771496870329047266088258938001861606973112319 < BW ^ 9 from Nat.le_of_ble_eq_true (by kernel_rfl)
  p1 := show BW ≤ 39402006196394479212279040100143613805079739270465446667948293404245721771496870329047266088258938001861606973112319 from Nat.le_of_ble_eq_true (by kernel_rfl)
  c1 := show BW ≤ 9850501549098619803069760025035903451269934817616361666987073351061430442874217582261816522064734500465401743278079 from Nat.le_of_ble_eq_true (by kernel_rfl)
  z9 := show 12 < BW ^ 9 from Nat.le_of_ble_eq_true (by kernel_rfl)
  c9 := show 245581924330355933059354953436454308283684637692875694451750329610872227127112066054762383127358415667364631269478 < BW ^ 9 from Nat.le_of_ble_eq_true (by kernel_rfl)
theorem zc384 (u : Int) : zi (sp384 u).C2 = (false, 245581924330355933059354953436454308283684637692875694451750329610872227127112066054762383127358415667364631269478) := by kernel_rfl
theorem zb384 (u : Int) : zi (sp384 u).B = (false, 27580193559959705877849011840389048093056905856361568521428707301988689241309860865136260764883745107765439761230575) := by kernel_rfl
theorem spb521 (u : Int) : SpB (sp521 u) where
  p9 := show 6864797660130609714981900799081393217269435300143305409394463459185543183397656052122559640661454554977296311391480858037121987999716643812574028291115057151 < BW ^ 9 from Nat.le_of_ble_eq_true (by kernel_rfl)
  p1 := show BW ≤ 6864797660130609714981900799081393217269435300143305409394463459185543183397656052122559640661454554977296311391480858037121987999716643812574028291115057151 from Nat.le_of_ble_eq_true (by kernel_rfl)
  c1 := show BW ≤ 1716199415032652428745475199770348304317358825035826352348615864796385795849414013030639910165363638744324077847870214509280496999929160953143507072778764287 from Nat.le_of_ble_eq_true (by kernel_rfl)
  z9 := show 4 < BW ^ 9 from Nat.le_of_ble_eq_true (by kernel_rfl)
  c9 := show 8 < BW ^ 9 from Nat.le_of_ble_eq_true (by kernel_rfl)
theorem zc521 (u : Int) : zi (sp521 u).C2 = (false, 8) := by kernel_rfl
theorem zb521 (u : Int) : zi (sp521 u).B = (false, 1093849038073734274511112390766805569936207598951683748994586394495953116150735016013708737573759623248592132296706313309438452531591012912142327488478985984) := by kernel_rfl
/-- The group of a curve's number. -/
theorem groupOf_c {w0 w : World} {K : Nat → Prop} {be : Addr} (E : Env w0 K be) (R : Rs w0 w K [] []) {k bits : Nat} {f : Int → Sp} (hk : (k = 0 ∧ bits = 256 ∧ f = sp256) ∨ (k = 1 ∧ bits = 384 ∧ f = sp384) ∨ (k = 2 ∧ bits = 521 ∧ f = sp521)) :
    CallX P 14 #[.int .i64 (k : Int)] w fun v w' => GroupR w0 w' K be f bits v := by
  refine calls_vc mo fn_14 rfl ok_14 (Nat.le_of_ble_eq_true rfl) nm_14 ?_
  (refine vsr ?_)
  (repeat refine vcl_v _ rfl rfl ?_); (refine vcl_end ?_)
  rcases hk with ⟨rfl, rfl, rfl⟩ | ⟨rfl, rfl, rfl⟩ | ⟨rfl, rfl, rfl⟩
  · refine ⟨_, bEqF (by decide), ?_⟩
    refine ⟨fun hc => (by cases hc), fun _ => ?_⟩
    refine ⟨_, bEqF (by decide), ?_⟩
    refine ⟨fun hc => (by cases hc), fun _ => ?_⟩
    refine (gP256_c E R).mono ?_
    rintro v w1 h
    exact ⟨rfl, h⟩
  · refine ⟨_, bEq rfl, ?_⟩
    refine ⟨fun _ => ?_, fun hc => (by cases hc)⟩
    refine (gP384_c E R).mono ?_
    rintro v w1 h
    exact ⟨rfl, h⟩
  · refine ⟨_, bEqF (by decide), ?_⟩
    refine ⟨fun hc => (by cases hc), fun _ => ?_⟩
    refine ⟨_, bEq rfl, ?_⟩
    refine ⟨fun _ => ?_, fun hc => (by cases hc)⟩
    refine (gP521_c E R).mono ?_
    rintro v w1 h
    exact ⟨rfl, h⟩

end Go.Vc
end

section
/- mapToCurveParams, ZZMapToCurve. -/
set_option linter.unusedSimpArgs false
set_option linter.unusedVariables false
set_option maxRecDepth 20000
set_option maxHeartbeats 4000000
namespace Go.Vc
open Go.Proofs

theorem sel_get {l : List Nat} {d : Nat} {ps : List Nat} (h : ∀ i ∈ l, i < ps.length) {k z : Nat} (hk : (l.map (fun i => ps.getD i d))[k]? = some z) : ∃ i, l[k]? = some i ∧ ps[i]? = some z := by
  rw [List.getElem?_map] at hk
  cases hl : l[k]? with
  | none => rw [hl] at hk; cases hk
  | some i =>
    rw [hl] at hk
    refine ⟨i, rfl, ?_⟩
    have hi := h i (List.mem_of_getElem? hl)
    have e : ps.getD i d = z := Option.some.inj hk
    rw [List.getD_eq_getElem?_getD, List.getElem?_eq_getElem hi] at e
    rw [List.getElem?_eq_getElem hi]
    exact congrArg some e

theorem Rs.sel {w0 w : World} {K : Nat → Prop} {ps : List Nat} {vs : List Zn} (R : Rs w0 w K ps vs) (l : List Nat) (hl : l.Nodup) (hb : ∀ i ∈ l, i < ps.length) : Rs w0 w K (l.map (fun i => ps.getD i 0)) (l.map (fun i => vs.getD i (false, 0))) := by
  obtain ⟨S, D, h, hr, F⟩ := R.all
  refine ⟨S, D, h, ⟨?_, by rw [List.length_map, List.length_map], fun {k z v} h1 h2 => ?_⟩, F⟩
  · rw [List.nodup_iff_pairwise_ne, List.pairwise_map]
    refine (List.nodup_iff_pairwise_ne.1 hl).imp_of_mem fun {a b} ha hb' hne e => hne ?_
    have h1 := hb a ha
    have h2 := hb b hb'
    rw [List.getD_eq_getElem?_getD, List.getElem?_eq_getElem h1, List.getD_eq_getElem?_getD, List.getElem?_eq_getElem h2] at e
    exact nodup_ix hr.nd (List.getElem?_eq_getElem h1) (by rw [List.getElem?_eq_getElem h2]; exact congrArg some e.symm)
  · obtain ⟨i, hi, hz⟩ := sel_get hb h1
    rw [List.getElem?_map, hi] at h2
    have hiv : i < vs.length := by rw [← hr.len]; exact (List.getElem?_eq_some_iff.1 hz).1
    have e : vs.getD i (false, 0) = v := Option.some.inj h2
    rw [List.getD_eq_getElem?_getD, List.getElem?_eq_getElem hiv] at e
    exact hr.get hz (by rw [List.getElem?_eq_getElem hiv]; exact congrArg some e)

theorem setInt64R {w0 w : World} {K : Nat → Prop} {ps : List Nat} {vs : List Zn} (R : Rs w0 w K ps vs) {i z : Nat} {x : Int} (hz : ps[i]? = some z) (hx : -4611686018427387904 ≤ x ∧ x ≤ 4611686018427387904) :
    CallX P 40 #[pI z, .int .i64 x] w fun v w' => v = pI z ∧ Rs w0 w' K ps (vs.set i (zi x)) := by
  obtain ⟨S, D, h, hr, F⟩ := R.all
  have hl : i < vs.length := by rw [← hr.len]; exact (List.getElem?_eq_some_iff.1 hz).1
  refine (setInt64_I h (hr.get hz (List.getElem?_eq_getElem hl)) hx).mono ?_
  rintro v w1 ⟨rfl, hI⟩
  exact ⟨rfl, Rs.up hr F i hz hI⟩

theorem setStringR {w0 w : World} {K : Nat → Prop} {ps : List Nat} {vs : List Zn} {be : Addr} {N : Nat} (E : Env w0 K be) (R : Rs w0 w K ps vs) {i z : Nat} {s : ByteArray} {base : Int} (hz : ps[i]? = some z) (hl : Lit s base N) :
    CallX P 41 #[pI z, .string s, .int .i64 base] w fun v w' => v = .tuple #[pI z, .bool true] ∧ Rs w0 w' K ps (vs.set i (false, N)) := by
  obtain ⟨S, D, h, hr, F⟩ := R.all
  have hi : i < vs.length := by rw [← hr.len]; exact (List.getElem?_eq_some_iff.1 hz).1
  refine (setString_I h (hr.get hz (List.getElem?_eq_getElem hi)) (E.eo F) hl).mono ?_
  rintro v w1 ⟨rfl, hI⟩
  exact ⟨rfl, Rs.up hr F i hz hI⟩

abbrev mapV (g pZ pc : Nat) : Value := .func (.func 42) #[] #[pC g, pI pZ, pI pc]

theorem mapParams_c {w : World} {K : Nat → Prop} {be : Addr} (E : Env w K be) {pp pb p0 c qp qb bits : Nat} {v0 v1 v2 : Zn} {oa : Option Addr} {on oc : Nat} {f : Int → Sp} (R : Rs w w K [pp, pb, p0] [v0, v1, v2]) (hCu : Cu w c qp qb bits) (hKc : K c) (hcv : Cv bits f) :
    CallX P 27 #[wgV c (.slice oa on oc)] w fun v w' => ∃ g pZ pc K' h L, v = .tuple #[mapV g pZ pc, h, L] ∧ Cl w' g [cvV c, .slice oa on oc] 73 ∧ K' g ∧ (∀ b, K b → K' b) ∧ Env w' K' be ∧
      Rs w' w' K' [pp, pb, p0, pZ, pc] [v0, v1, v2, zi (f 0).Z, zi (f 0).C2] ∧ Fm (fun b => ¬ K b) w w' := by
  refine calls_vc mo fn_27 rfl ok_27 (Nat.le_of_ble_eq_true rfl) nm_27 ?_
  (refine vsr ?_)
  obtain ⟨g1, e1, cg1, fg1, sg1⟩ := bx 73 (v := wgV c (.slice oa on oc)) (cs := [cvV c, .slice oa on oc]) rfl w
  refine ⟨_, g1, e1, ?_⟩
  (repeat refine vcl_v _ rfl rfl ?_); (refine vcl_end ?_)
  obtain ⟨K1, E1, R1, hsub1, hnew1, hout1⟩ := keepR E R fg1
  have hK1 : K1 w.heap.size := hnew1 _ (Nat.le_refl _) (by omega)
  have hCu1 : Cu g1 c qp qb bits := hCu.fm fg1 (fun h => h)
  have hKc1 : K1 c := hsub1 c hKc
  (refine vsr ?_)
  obtain ⟨pZ, w1, e1, R2, -⟩ := alI R1
  refine ⟨_, w1, e1, ?_⟩
  replace R2 : Rs g1 w1 K1 [pp, pb, p0, pZ] [v0, v1, v2, (false, 0)] := R2
  obtain ⟨pc, w2, e2, R3, -⟩ := alI R2
  refine ⟨_, w2, e2, ?_⟩
  replace R3 : Rs g1 w2 K1 [pp, pb, p0, pZ, pc] [v0, v1, v2, (false, 0), (false, 0)] := R3
  (repeat refine vcl_v _ rfl rfl ?_); (refine vcl_end ?_)
  refine vcut (by repeat (first | exact moE _ _ _ | exact moEd _ _ _ | apply moB | apply moL | apply moV)) (Value × Value) (fun p => ⟨[(1, pC w.heap.size), (5, pI pZ), (6, pI pc), (3, p.1), (4, p.2)], []⟩) (fun _ u => Rs g1 u K1 [pp, pb, p0, pZ, pc] [v0, v1, v2, zi (f 0).Z, zi (f 0).C2]) ?_ ?_
  · refine rnA (fa fo_73_0 _ _) ?_
    refine rnL na_71 (R3.cl cg1 hK1) rfl ?_
    refine ⟨_, _, mPar _ _, ?_⟩
    refine (params_c c _).mono ?_
    rintro _ _ ⟨rfl, rfl⟩
    obtain ⟨qn, qx, qy, nm, hcl⟩ := (hCu1.fm R3.fm (fun e => e hKc1)).all
    refine rnA (fa fo_94_5 _ _) ?_
    refine rnL na_3 hcl rfl ?_
    rcases hcv with ⟨rfl, rfl⟩ | ⟨rfl, rfl⟩ | ⟨rfl, rfl⟩
    · refine ⟨_, bEq rfl, ?_⟩
      refine ⟨fun _ => ?_, fun hc => (by cases hc)⟩
      refine (setInt64R R3 (i := 3) (x := -10) rfl (by omega)).mono ?_
      rintro _ w3 ⟨rfl, R4⟩
      refine (setStringR E1 R4 (i := 4) rfl litC256).mono ?_
      rintro _ w4 ⟨rfl, R5⟩
      exact ⟨(_, _), ⟨⟨rfl, rfl, rfl, rfl, rfl, trivial⟩, rfl⟩, by rw [zc256]; exact R5⟩
    · refine ⟨_, bEqF (by decide), ?_⟩
      refine ⟨fun hc => (by cases hc), fun _ => ?_⟩
      refine ⟨_, bEq rfl, ?_⟩
      refine ⟨fun _ => ?_, fun hc => (by cases hc)⟩
      refine (setInt64R R3 (i := 3) (x := -12) rfl (by omega)).mono ?_
      rintro _ w3 ⟨rfl, R4⟩
      refine (setStringR E1 R4 (i := 4) rfl litC384).mono ?_
      rintro _ w4 ⟨rfl, R5⟩
      exact ⟨(_, _), ⟨⟨rfl, rfl, rfl, rfl, rfl, trivial⟩, rfl⟩, by rw [zc384]; exact R5⟩
    · refine ⟨_, bEqF (by decide), ?_⟩
      refine ⟨fun hc => (by cases hc), fun _ => ?_⟩
      refine ⟨_, bEqF (by decide), ?_⟩
      refine ⟨fun hc => (by cases hc), fun _ => ?_⟩
      refine ⟨_, bEq rfl, ?_⟩
      refine ⟨fun _ => ?_, fun hc => (by cases hc)⟩
      refine (setInt64R R3 (i := 3) (x := -4) rfl (by omega)).mono ?_
      rintro _ w3 ⟨rfl, R4⟩
      refine (setInt64R R4 (i := 4) (x := 8) rfl (by omega)).mono ?_
      rintro _ w4 ⟨rfl, R5⟩
      exact ⟨(_, _), ⟨⟨rfl, rfl, rfl, rfl, rfl, trivial⟩, rfl⟩, R5⟩
  rintro ⟨h, L⟩ u R4
  (refine vsr ?_)
  (repeat refine vcl_v _ rfl rfl ?_); (refine vcl_end ?_)
  obtain ⟨S, D, hS, hr, F⟩ := R4.all
  have cgu := R4.cl cg1 hK1
  refine ⟨rfl, w.heap.size, pZ, pc, K1, h, L, rfl, cgu, hK1, hsub1, ⟨fun g => E1.gl (F.trans g (fun _ _ h => h)), fun g => E1.eo (F.trans g (fun _ _ h => h))⟩, ⟨S, D, hS, hr, Fm.refl _ _⟩, hout1 F⟩

theorem sp_same {bits : Nat} {f : Int → Sp} (h : Cv bits f) (u : Int) : (f u).p = (f 0).p ∧ (f u).B = (f 0).B ∧ (f u).Z = (f 0).Z ∧ (f u).C2 = (f 0).C2 ∧ (f u).u = u := by
  rcases h with ⟨_, rfl⟩ | ⟨_, rfl⟩ | ⟨_, rfl⟩ <;> exact ⟨rfl, rfl, rfl, rfl, rfl⟩

theorem sp_ok {bits : Nat} {f : Int → Sp} (h : Cv bits f) {u : Int} (h0 : 0 < u) (h1 : u < (f 0).p) : (f u).Ok := by
  rcases h with ⟨_, rfl⟩ | ⟨_, rfl⟩ | ⟨_, rfl⟩
  · exact ok256 h0 h1
  · exact ok384 h0 h1
  · exact ok521 h0 h1

theorem sp_b {bits : Nat} {f : Int → Sp} (h : Cv bits f) (u : Int) : SpB (f u) := by
  rcases h with ⟨_, rfl⟩ | ⟨_, rfl⟩ | ⟨_, rfl⟩
  · exact spb256 u
  · exact spb384 u
  · exact spb521 u

theorem asG (o : Value) (w : World) : (Instr.typeAssert (.iface 73 o) 42 73 false).run P w = .ok o w := by kernel_rfl
theorem mkIE (e : Nat) (w : World) : (Instr.makeInterface 78 (pC e)).run P w = .ok (.iface 78 (pC e)) w := by kernel_rfl

/-- A point of the map, as an element at e. -/
def EltR (w w' : World) (K : Nat → Prop) (be : Addr) (c bits : Nat) (oa : Option Addr) (on oc : Nat) (x y : Int) (e : Nat) : Prop := ∃ px py qp qb K', Cl w' e [pI px, pI py, cvV c, .slice oa on oc] 91 ∧ K' e ∧ K' c ∧ (∀ b, K b → K' b) ∧ Env w' K' be ∧
  Rs w' w' K' [px, py] [zi x, zi y] ∧ Cu w' c qp qb bits ∧ Fm (fun b => ¬ K b) w w'

theorem zzMap_c {w : World} {K : Nat → Prop} {be : Addr} (E : Env w K be) {pp pb p0 c bits : Nat} {oa : Option Addr} {on oc : Nat} {f : Int → Sp} {u : Int} (R : Rs w w K [pp, pb, p0] [(false, (f 0).p), zi (f 0).B, zi u]) (hCu : Cu w c pp pb bits) (hKc : K c) (hcv : Cv bits f) (h0 : 0 < u) (h1 : u < (f 0).p) :
    CallX P 17 #[.iface 73 (wgV c (.slice oa on oc)), pI p0] w fun v w' => ∃ e X, v = .iface 78 (pC e) ∧ EltR w w' K be c bits oa on oc ((f u).xn * X % (f u).p) (f u).y e ∧ Cg (f u).p ((f u).xd * X) 1 := by
  have hok := sp_ok hcv h0 h1
  have hbd := sp_b hcv u
  obtain ⟨sp, sB, sZ, sC, su⟩ := sp_same hcv u
  rw [← sp, ← sB] at R
  refine calls_vc mo fn_17 rfl ok_17 (Nat.le_of_ble_eq_true rfl) nm_17 ?_
  (refine vsr ?_)
  (repeat refine vcl_v _ rfl rfl ?_); (refine vcl_end ?_)
  (refine vsr ?_)
  refine rnA (asG _) ?_
  obtain ⟨g1, e1, cg1, fg1, sg1⟩ := nw (t := 73) (z := .agg #[.nilIface, .slice none 0 0]) (by kernel_rfl) (cs := [.nilIface, .slice none 0 0]) rfl w
  refine ⟨_, g1, e1, ?_⟩
  obtain ⟨g2, e2, cg2, fg2, sg2⟩ := stAg (t := 73) (vs := [cvV c, .slice oa on oc]) sz_73 cg1 (i := 0) (by simp) (by intro v hv; simp at hv; rcases hv with rfl | rfl <;> rfl) (cs' := [cvV c, .slice oa on oc]) rfl
  refine ⟨g2, e2, ?_⟩
  have fg : Fm (fun _ => False) w g2 := fg1.trans fg2 (fun b hb e => by omega)
  obtain ⟨K1, E1, R1, hsub1, hnew1, hout1⟩ := keepR E R fg
  have hCu1 : Cu g2 c pp pb bits := hCu.fm fg (fun h => h)
  have hKc1 : K1 c := hsub1 c hKc
  (repeat refine vcl_v _ rfl rfl ?_); (refine vcl_end ?_)
  (refine vsr ?_)
  refine rnR (ldAg (by kernel_rfl) sz_73 cg2 rfl rfl) ?_
  refine (mapParams_c E1 R1 hCu1 hKc1 hcv).mono ?_
  rintro _ w3 ⟨g, pZ, pc, K2, hh, L, rfl, cg, hKg, hsub2, E2, R2, F2⟩
  have hCu2 : Cu w3 c pp pb bits := hCu1.fm F2 (fun e => e hKc1)
  have hKc2 := hsub2 c hKc1
  (repeat refine vcl_v _ rfl rfl ?_); (refine vcl_end ?_)
  (refine vsr ?_)
  obtain ⟨pu, w4, e4, R3, -⟩ := alI R2
  refine ⟨_, w4, e4, ?_⟩
  replace R3 : Rs w3 w4 K2 [pp, pb, p0, pZ, pc, pu] [(false, (f u).p), zi (f u).B, zi u, zi (f 0).Z, zi (f 0).C2, (false, 0)] := R3
  have bu : (zi u).2 < BW ^ 250 := by
    rw [zi2]
    have := hbd.p9
    exact lt_pow (a := 9) (by omega) (by omega)
  refine (setR R3 (i := 5) (j := 2) rfl rfl rfl bu).mono ?_
  rintro _ w5 ⟨rfl, R4⟩
  have R5 := R4.sel [0, 1, 3, 4, 5] (by decide) (by show ∀ i ∈ [0, 1, 3, 4, 5], i < 6; decide)
  replace R5 : Rs w3 w5 K2 [pp, pb, pZ, pc, pu] [(false, (f u).p), zi (f u).B, zi (f u).Z, zi (f u).C2, zi (f u).u] := by rw [sZ, sC, su]; exact R5
  have F5 := R4.fm
  refine CallX.mono (A := fun v w' => ∃ e px py K' X, v = pC e ∧ Cl w' e [pI px, pI py, cvV c, .slice oa on oc] 91 ∧ K' e ∧ (∀ b, K2 b → K' b) ∧ Env w' K' be ∧
      Rs w' w' K' [px, py] [zi ((f u).xn * X % (f u).p), zi (f u).y] ∧ Cg (f u).p ((f u).xd * X) 1 ∧ Cu w' c pp pb bits ∧ w5.heap.size ≤ e ∧ Fm (fun b => ¬ K2 b) w3 w') ?_ ?_
  · refine calls_vc mo fn_42 rfl ok_42 (Nat.le_of_ble_eq_true rfl) nm_42 ?_
    (refine vsr ?_)
    (repeat refine vcl_v _ rfl rfl ?_); (refine vcl_end ?_)
    (refine vsr ?_)
    refine rnR (ldAg (by kernel_rfl) sz_73 (R4.cl cg hKg) rfl rfl) ?_
    refine (sswu_c E2 hok R5 hCu2 hKc2 hbd.p9 hbd.p1 hbd.c1 hbd.z9 hbd.c9).mono ?_
    rintro v w6 h
    obtain ⟨e, px, py, K', X, rfl, h⟩ := h
    exact ⟨rfl, e, px, py, K', X, rfl, h⟩
  rintro _ w6 ⟨e, px, py, K3, X, rfl, ce, hKe, hsub3, E3, R6, hX, hCu3, _, F6⟩
  refine rnA (mkIE e) ?_
  exact ⟨rfl, e, X, rfl, ⟨px, py, pp, pb, K3, ce, hKe, hsub3 c hKc2, fun b hb => hsub3 b (hsub2 b (hsub1 b hb)), E3, R6, hCu3, hout1 (F2.trans F6 (fun b _ h hk => h (hsub2 b hk)))⟩, hX⟩

end Go.Vc
end
